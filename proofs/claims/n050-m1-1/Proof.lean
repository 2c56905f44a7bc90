import JvmDerived
import JvmDerived.Pilot.@@N@@Statement
import JvmDerived.Pilot.@@N@@Code
set_option linter.unusedVariables false
set_option linter.unusedSimpArgs false
namespace Jvm.RoadKit
open Sem ClassFile Op Lib Jvm.Stand Jvm.Free Jvm.LawKit
section New
variable {p : Program} {l : Launch} {e : Env} {R : Room} {s : State} {m : MethodId} {args : Array Value} {below : List Frame} {meth : Method} {c : Code} {T : State} {locs : List Loc} {cells slots : Nat}
theorem retI (X : Stand p l e R s m args below meth c T locs cells slots) (hx : p.tables.exec = Jvm.exec) {pc : Nat} {Ls : Array Slot} {z : Int32} {rest : List Value} (hret : meth.sig.returnType = some .int) (hd : decode c.code pc = .ok (.ireturn, 1)) {fs : List Frame}
    (hl : ∀ (f : JFrame) (acts : List Action), f.method = m → f.locked = none → f.entered = [] → (doReturn e (T.setTop f) acts (some (.int z))).1 = T.setFrames fs) : Steps p.tables e below (T.setTop (mkF m pc Ls (.int z :: rest))) (T.setFrames fs) := by
  have hm' : T.vm.method? m = some meth := X.method'
  have hn : narrow .int (.int z) = .int z := rfl
  show Steps p.tables e below (T.setTop { method := m, pc := pc, locals := Ls, stack := _ :: rest, locked := none }) _
  jvm_step X.here [X.here.top, hx, hd, hm', hret, hn]
  first | (intro acts; rw [hl _ acts rfl rfl rfl]) | rw [hl _ _ rfl rfl rfl]
  exact Steps.refl _
end New
end Jvm.RoadKit
/- laws to paste: Road.backV (cut by pick.py; bodies as the Statement names them) -/
namespace Jvm.Pilot.@@N@@
namespace StrChars
open Jvm Sem ClassFile Op Lib Jvm.Stand Jvm.Free.XT Jvm.Free.ALB Jvm.Free.JM Jvm.Free
open Jvm.Lib.Cold (StaticIs)
/-- a char array whose places are chars -/
def Ch (a : Addr) (A : Cell) (U : State) : Prop := Arr .char a A U ∧ Typed .char A
theorem Ch.mv {a : Addr} {A : Cell} {U U' : State} (h : Ch a A U) (hal : U.vm.Alike U'.vm) (hh : U'.heap = U.heap) : Ch a A U' := ⟨h.1.mv hal hh, h.2⟩
theorem Ch.keep {a : Addr} {A : Cell} {U U' : State} (h : Ch a A U) (hal : U.vm.Alike U'.vm) (hk : U'.heap[a]? = some A) : Ch a A U' := ⟨h.1.keep hal hk, h.2⟩
/-- what place i of a char[]'s cell holds -/
def cv (A : Cell) (i : Nat) : Int32 := match A.slots[i]? with | some (.int x) => x | _ => 0
theorem Ch.get {a : Addr} {A : Cell} {U : State} (h : Ch a A U) {i : Nat} (hi : i < A.slots.size) : A.slots[i]? = some (.int (cv A i)) := by
  have e := Array.getElem?_eq_getElem hi
  have f := h.2 i _ e
  unfold cv; rw [e]
  generalize A.slots[i] = v at f
  cases v <;> simp [fits] at f ⊢
/-- the byte that i2b leaves of a char -/
def lo8 (x : Int32) : Int32 := x.toInt8.toInt32
theorem fits_lo8 (y : Int32) : fits .byte (.int (lo8 y)) = true := by
  have h1 := y.toInt8.le_toInt
  have h2 := y.toInt8.toInt_lt
  simp only [lo8, fits, Bool.and_eq_true, decide_eq_true_eq, Int32.le_iff_toInt_le, Int8.toInt_toInt32, show (-128 : Int32).toInt = -128 from by decide, show (127 : Int32).toInt = 127 from by decide]
  omega
/-- A' is A but that each place j of lo .. hi - 1 holds f j -/
def Laid (A A' : Cell) (lo hi : Nat) (f : Nat → Value) : Prop := A'.cls = A.cls ∧ A'.vm = A.vm ∧ A'.slots.size = A.slots.size ∧ ∀ i, A'.slots[i]? = if lo ≤ i ∧ i < hi then some (f i) else A.slots[i]?
theorem Laid.zero (A : Cell) (lo : Nat) (f : Nat → Value) : Laid A A lo (lo + 0) f := ⟨rfl, rfl, rfl, fun i => by rw [if_neg (by omega)]⟩
theorem Laid.step {A Ak : Cell} {lo k : Nat} {f : Nat → Value} {v : Value} (h : Laid A Ak lo k f) (hlo : lo ≤ k) (hk : k < Ak.slots.size) (hv : v = f k) : Laid A (Ak.setSlot k v) lo (k + 1) f := by
  refine ⟨h.1, h.2.1, by simpa [Cell.setSlot] using h.2.2.1, fun i => ?_⟩
  by_cases e : k = i
  · subst e; rw [Cell.slots_setSlot_self v hk, if_pos (by omega), hv]
  · rw [Cell.slots_setSlot_ne v e, h.2.2.2 i]
    by_cases q : lo ≤ i ∧ i < k
    · rw [if_pos q, if_pos (by omega)]
    · rw [if_neg q, if_neg (by omega)]
def U16 : String := "java/lang/StringUTF16"
namespace Cmp5
def yN : MethodName := ⟨"java/lang/StringUTF16", "compress", "([CI[BII)I"⟩
abbrev yB : ByteArray := jdk_52_method_21_code
theorem d0 : decode yB 0 = .ok (.iconst 0, 1) := by decide +kernel
theorem d1 : decode yB 1 = .ok (.istore 5, 2) := by decide +kernel
theorem d3 : decode yB 3 = .ok (.iload 5, 2) := by decide +kernel
theorem d5 : decode yB 5 = .ok (.iload 4, 2) := by decide +kernel
theorem d7 : decode yB 7 = .ok (.if_icmp (.ge) 37, 3) := by decide +kernel
theorem d10 : decode yB 10 = .ok (.aload_n 0, 1) := by decide +kernel
theorem d11 : decode yB 11 = .ok (.iload_n 1, 1) := by decide +kernel
theorem d12 : decode yB 12 = .ok (.caload, 1) := by decide +kernel
theorem d13 : decode yB 13 = .ok (.istore 6, 2) := by decide +kernel
theorem d15 : decode yB 15 = .ok (.iload 6, 2) := by decide +kernel
theorem d17 : decode yB 17 = .ok (.sipush 255, 3) := by decide +kernel
theorem d20 : decode yB 20 = .ok (.if_icmp (.le) 6, 3) := by decide +kernel
theorem d26 : decode yB 26 = .ok (.aload_n 2, 1) := by decide +kernel
theorem d27 : decode yB 27 = .ok (.iload_n 3, 1) := by decide +kernel
theorem d28 : decode yB 28 = .ok (.iload 6, 2) := by decide +kernel
theorem d30 : decode yB 30 = .ok (.i2b, 1) := by decide +kernel
theorem d31 : decode yB 31 = .ok (.bastore, 1) := by decide +kernel
theorem d32 : decode yB 32 = .ok (.iinc 1 1, 3) := by decide +kernel
theorem d35 : decode yB 35 = .ok (.iinc 3 1, 3) := by decide +kernel
theorem d38 : decode yB 38 = .ok (.iinc 5 1, 3) := by decide +kernel
theorem d41 : decode yB 41 = .ok (.goto (-38), 3) := by decide +kernel
theorem d44 : decode yB 44 = .ok (.iload 4, 2) := by decide +kernel
theorem d46 : decode yB 46 = .ok (.ireturn, 1) := by decide +kernel
def site : List Cond := []
def tab : Cond := tabOf yN yB 7 (some .int) site
def P (b : Addr) (A : Cell) (d : Addr) (B : Cell) (o q len : Nat) (args : Array Value) (s : State) : Prop := args = #[.ref b, .int (Int32.ofNat o), .ref d, .int (Int32.ofNat q), .int (Int32.ofNat len)] ∧ Ch b A s ∧ Arr .byte d B s ∧ b ≠ d ∧ o + len ≤ A.slots.size ∧ q + len ≤ B.slots.size ∧ ∀ i, i < len → ¬ 255 < cv A (o + i)
def E (b : Addr) (A : Cell) (d : Addr) (B : Cell) (o q len : Nat) (r : Option Value) (s u : State) : Prop := r = some (.int (Int32.ofNat len)) ∧ ∃ B', Put d B' s u ∧ Laid B B' q (q + len) (fun j => Value.int (lo8 (cv A (o + (j - q)))))
/-- no char of the range above 255: len; the places written hold each char's low byte -/
theorem law (l : Launch) (b : Addr) (A : Cell) (d : Addr) (B : Cell) (o q len : Nat) : Law l yN 5 5 0 0 yB 7 (some .int) site (P b A d B o q len) (E b A d B o q len) (copyLocs d q len) 0 0 := by
  refine Law.of_walk (plainFor_of_name (by decide +kernel)) (by decide +kernel) (by decide +kernel) (by decide) (fun _ _ h => by rw [h.1]; rfl) (fun _ U U' hal hh h => ⟨h.1, h.2.1.mv hal hh, h.2.2.1.mv hal hh, h.2.2.2⟩) (fun r U U' V V' h1 hal h2 h => ⟨h.1, h.2.elim fun B' q => ⟨B', q.1.mv h1 h2, q.2⟩⟩) ?_
  intro p e s m args below meth c s₁ X0 hexec hbytes hml hret hlk hnm hown hh0 W hP
  obtain ⟨rfl, hA, hB, hne, l1, l2, hp⟩ := hP
  have c1 : Steps p.tables e below (s₁.setTop (entryFrame m #[.ref b, .int (Int32.ofNat o), .ref d, .int (Int32.ofNat q), .int (Int32.ofNat len)] 7)) (s₁.setTop (mkF m 0 #[.val (.ref b), .val (.int (Int32.ofNat o)), .val (.ref d), .val (.int (Int32.ofNat q)), .val (.int (Int32.ofNat len)), .unset, .unset] [])) := entry rfl
  have hA0 := hA.1.mv X0.warmed.alike hh0
  have hB0 := hB.mv X0.warmed.alike hh0
  have a31 := hA.1.2.2.2
  have c2 : Steps p.tables e below (s₁.setTop (entryFrame m #[.ref b, .int (Int32.ofNat o), .ref d, .int (Int32.ofNat q), .int (Int32.ofNat len)] 7)) (s₁.setTop (mkF m 3 #[.val (.ref b), .val (.int (Int32.ofNat o)), .val (.ref d), .val (.int (Int32.ofNat q)), .val (.int (Int32.ofNat len)), .val (.int 0), .unset] [])) := c1.trans (by
    refine iconstV X0.here hexec rfl 0 (hb hbytes d0) (by decide) ?_
    refine XS.istore X0.here hexec rfl (hb hbytes d1) rfl rfl ?_
    exact Steps.refl _)
  have loop : ∀ (r i : Nat), i + r = len → ∀ (z : Slot), (z = .unset ∨ ∃ w, z = .val w ∧ w.category = 1) → ∀ (Tl : State) (Bk : Cell), Stand p l e { frames := 0, locals := 0, cells := 0, slots := 0 } s m #[.ref b, .int (Int32.ofNat o), .ref d, .int (Int32.ofNat q), .int (Int32.ofNat len)] below meth c Tl ([] ++ copyLocs d q i) 0 0 → Put d Bk s₁ Tl → Laid B Bk q (q + i) (fun j => Value.int (lo8 (cv A (o + (j - q))))) →
      Steps p.tables e below (s₁.setTop (entryFrame m #[.ref b, .int (Int32.ofNat o), .ref d, .int (Int32.ofNat q), .int (Int32.ofNat len)] 7)) (Tl.setTop (mkF m 3 #[.val (.ref b), .val (.int (Int32.ofNat (o + i))), .val (.ref d), .val (.int (Int32.ofNat (q + i))), .val (.int (Int32.ofNat len)), .val (.int (Int32.ofNat i)), z] [])) → ∃ (T' : State) (B' : Cell) (z' : Slot), Stand p l e { frames := 0, locals := 0, cells := 0, slots := 0 } s m #[.ref b, .int (Int32.ofNat o), .ref d, .int (Int32.ofNat q), .int (Int32.ofNat len)] below meth c T' ([] ++ copyLocs d q len) 0 0 ∧ Put d B' s₁ T' ∧ Laid B B' q (q + len) (fun j => Value.int (lo8 (cv A (o + (j - q))))) ∧
      Steps p.tables e below (s₁.setTop (entryFrame m #[.ref b, .int (Int32.ofNat o), .ref d, .int (Int32.ofNat q), .int (Int32.ofNat len)] 7)) (T'.setTop (mkF m 3 #[.val (.ref b), .val (.int (Int32.ofNat (o + len))), .val (.ref d), .val (.int (Int32.ofNat (q + len))), .val (.int (Int32.ofNat len)), .val (.int (Int32.ofNat len)), z'] [])) := by
    intro r
    induction r with
    | zero =>
      intro i hi z hz Tl Bk Xl pl fl cl
      have hil : i = len := by omega
      rw [hil] at Xl fl cl
      exact ⟨Tl, Bk, z, Xl, pl, fl, cl⟩
    | succ r ih =>
      intro i hi z hz Tl Bk Xl pl fl cl
      have all := X0.warmed.alike.symm.trans Xl.warmed.alike
      have hAl := hA0.keep all (pl.other hne hA0.1)
      have hBk := hB0.like all pl.1 fl.1 fl.2.1 fl.2.2.1
      have hlt : q + i < Bk.slots.size := by rw [fl.2.2.1]; omega
      have c3 : Steps p.tables e below (s₁.setTop (entryFrame m #[.ref b, .int (Int32.ofNat o), .ref d, .int (Int32.ofNat q), .int (Int32.ofNat len)] 7)) (Tl.setTop (mkF m 12 #[.val (.ref b), .val (.int (Int32.ofNat (o + i))), .val (.ref d), .val (.int (Int32.ofNat (q + i))), .val (.int (Int32.ofNat len)), .val (.int (Int32.ofNat i)), z] [.int (Int32.ofNat (o + i)), .ref b])) := cl.trans (by
        refine XS.iload Xl.here hexec rfl (hb hbytes d3) rfl ?_
        refine XS.iload Xl.here hexec rfl (hb hbytes d5) rfl ?_
        refine XS.icmpNo Xl.here hexec rfl (hb hbytes d7) rfl (ii_ge_f (lt32 (by omega) (by omega))) ?_
        refine XS.aloadN Xl.here hexec rfl (hb hbytes d10) rfl rfl ?_
        refine XS.iloadN Xl.here hexec rfl (hb hbytes d11) rfl ?_
        exact Steps.refl _)
      have c4 : Steps p.tables e below (s₁.setTop (entryFrame m #[.ref b, .int (Int32.ofNat o), .ref d, .int (Int32.ofNat q), .int (Int32.ofNat len)] 7)) (Tl.setTop (mkF m 13 #[.val (.ref b), .val (.int (Int32.ofNat (o + i))), .val (.ref d), .val (.int (Int32.ofNat (q + i))), .val (.int (Int32.ofNat len)), .val (.int (Int32.ofNat i)), z] [.int (cv A (o + i))])) := c3.trans (by
        refine Xl.aget hexec hAl rfl (hA.get (i := o + i) (by omega)) rfl rfl (hb hbytes d12) ?_
        exact Steps.refl _)
      have c5 : Steps p.tables e below (s₁.setTop (entryFrame m #[.ref b, .int (Int32.ofNat o), .ref d, .int (Int32.ofNat q), .int (Int32.ofNat len)] 7)) (Tl.setTop (mkF m 15 #[.val (.ref b), .val (.int (Int32.ofNat (o + i))), .val (.ref d), .val (.int (Int32.ofNat (q + i))), .val (.int (Int32.ofNat len)), .val (.int (Int32.ofNat i)), .val (.int (cv A (o + i)))] [])) := c4.trans (by
        refine XS.istoreS Xl.here hexec rfl (hb hbytes d13) rfl rfl hz ?_
        exact Steps.refl _)
      have c6 : Steps p.tables e below (s₁.setTop (entryFrame m #[.ref b, .int (Int32.ofNat o), .ref d, .int (Int32.ofNat q), .int (Int32.ofNat len)] 7)) (Tl.setTop (mkF m 31 #[.val (.ref b), .val (.int (Int32.ofNat (o + i))), .val (.ref d), .val (.int (Int32.ofNat (q + i))), .val (.int (Int32.ofNat len)), .val (.int (Int32.ofNat i)), .val (.int (cv A (o + i)))] [.int (lo8 (cv A (o + i))), .int (Int32.ofNat (q + i)), .ref d])) := c5.trans (by
        refine XS.iload Xl.here hexec rfl (hb hbytes d15) rfl ?_
        refine sipushV Xl.here hexec rfl 255 (hb hbytes d17) (by decide) ?_
        refine XS.icmpYes Xl.here hexec rfl (pc0 := 20) rfl (hb hbytes d20) rfl (ii_le_t (hp i (by omega))) (by decide) rfl ?_
        refine XS.aloadN Xl.here hexec rfl (hb hbytes d26) rfl rfl ?_
        refine XS.iloadN Xl.here hexec rfl (hb hbytes d27) rfl ?_
        refine XS.iload Xl.here hexec rfl (hb hbytes d28) rfl ?_
        refine i2b Xl.here hexec rfl (hb hbytes d30) rfl ?_
        exact Steps.refl _)
      obtain ⟨T7, X7, p7, st7⟩ := Xl.aput hexec hBk rfl hlt rfl (fits_lo8 (cv A (o + i))) (g := (mkF m 31 #[.val (.ref b), .val (.int (Int32.ofNat (o + i))), .val (.ref d), .val (.int (Int32.ofNat (q + i))), .val (.int (Int32.ofNat len)), .val (.int (Int32.ofNat i)), .val (.int (cv A (o + i)))] [.int (lo8 (cv A (o + i))), .int (Int32.ofNat (q + i)), .ref d])) rfl (rest := []) rfl (hb hbytes d31)
      have c8 : Steps p.tables e below (s₁.setTop (entryFrame m #[.ref b, .int (Int32.ofNat o), .ref d, .int (Int32.ofNat q), .int (Int32.ofNat len)] 7)) (T7.setTop (mkF m 32 #[.val (.ref b), .val (.int (Int32.ofNat (o + i))), .val (.ref d), .val (.int (Int32.ofNat (q + i))), .val (.int (Int32.ofNat len)), .val (.int (Int32.ofNat i)), .val (.int (cv A (o + i)))] [])) := c6.trans (st7 _ (Steps.refl _))
      have c9 : Steps p.tables e below (s₁.setTop (entryFrame m #[.ref b, .int (Int32.ofNat o), .ref d, .int (Int32.ofNat q), .int (Int32.ofNat len)] 7)) (T7.setTop (mkF m 3 #[.val (.ref b), .val (.int (Int32.ofNat (o + i) + 1)), .val (.ref d), .val (.int (Int32.ofNat (q + i) + 1)), .val (.int (Int32.ofNat len)), .val (.int (Int32.ofNat i + 1)), .val (.int (cv A (o + i)))] [])) := c8.trans (by
        refine iincV X7.here hexec rfl 1 (hb hbytes d32) (by decide) rfl rfl ?_
        refine iincV X7.here hexec rfl 1 (hb hbytes d35) (by decide) rfl rfl ?_
        refine iincV X7.here hexec rfl 1 (hb hbytes d38) (by decide) rfl rfl ?_
        refine XS.goto X7.here hexec rfl (pc0 := 41) rfl (hb hbytes d41) (by decide) rfl ?_
        exact Steps.refl _)
      have c10 : Steps p.tables e below (s₁.setTop (entryFrame m #[.ref b, .int (Int32.ofNat o), .ref d, .int (Int32.ofNat q), .int (Int32.ofNat len)] 7)) (T7.setTop (mkF m 3 #[.val (.ref b), .val (.int (Int32.ofNat (o + (i + 1)))), .val (.ref d), .val (.int (Int32.ofNat (q + (i + 1)))), .val (.int (Int32.ofNat len)), .val (.int (Int32.ofNat (i + 1))), .val (.int (cv A (o + i)))] [])) := by
        have := c9
        rw [succ32, succ32, succ32] at this
        exact this
      exact ih (i + 1) (by omega) _ (Or.inr ⟨_, rfl, rfl⟩) T7 _ (by rw [copyLocs_step, ← List.append_assoc]; exact X7) (pl.trans p7) (fl.step (by omega) hlt (by simp)) c10
  obtain ⟨T9, B9, z9, X9, p9, f9, g9⟩ := loop len 0 (by omega) .unset (Or.inl rfl) s₁ B (by simpa [copyLocs] using X0) ⟨hB0.1, fun _ _ => rfl, rfl⟩ (Laid.zero _ _ _) c2
  have c11 : Steps p.tables e below (s₁.setTop (entryFrame m #[.ref b, .int (Int32.ofNat o), .ref d, .int (Int32.ofNat q), .int (Int32.ofNat len)] 7)) (T9.setTop (mkF m 46 #[.val (.ref b), .val (.int (Int32.ofNat (o + len))), .val (.ref d), .val (.int (Int32.ofNat (q + len))), .val (.int (Int32.ofNat len)), .val (.int (Int32.ofNat len)), z9] [.int (Int32.ofNat len)])) := g9.trans (by
    refine XS.iload X9.here hexec rfl (hb hbytes d3) rfl ?_
    refine XS.iload X9.here hexec rfl (hb hbytes d5) rfl ?_
    refine XS.icmpYes X9.here hexec rfl (pc0 := 7) rfl (hb hbytes d7) rfl (ii_ge_t (nlt32 (by omega) (Nat.le_refl _))) (by decide) rfl ?_
    refine XS.iload X9.here hexec rfl (hb hbytes d44) rfl ?_
    exact Steps.refl _)
  exact ⟨T9, some (.int (Int32.ofNat len)), _, _, _, X9, by simp, rfl, rfl, (fun h => by cases h), ⟨rfl, B9, p9.from hh0, f9⟩, fun fs hl => c11.trans (X9.ireturnOut hexec hret rfl (Or.inl rfl) (hb hbytes d46) hl)⟩
end Cmp5
namespace Cmp3
def yN : MethodName := ⟨"java/lang/StringUTF16", "compress", "([CII)[B"⟩
abbrev yB : ByteArray := jdk_52_method_16_code
theorem d0 : decode yB 0 = .ok (.iload_n 2, 1) := by decide +kernel
theorem d1 : decode yB 1 = .ok (.newarray .byte, 2) := by decide +kernel
theorem d3 : decode yB 3 = .ok (.astore_n 3, 1) := by decide +kernel
theorem d4 : decode yB 4 = .ok (.aload_n 0, 1) := by decide +kernel
theorem d5 : decode yB 5 = .ok (.iload_n 1, 1) := by decide +kernel
theorem d6 : decode yB 6 = .ok (.aload_n 3, 1) := by decide +kernel
theorem d7 : decode yB 7 = .ok (.iconst 0, 1) := by decide +kernel
theorem d8 : decode yB 8 = .ok (.iload_n 2, 1) := by decide +kernel
theorem d9 : decode yB 9 = .ok (.invokestatic 115, 3) := by decide +kernel
theorem d12 : decode yB 12 = .ok (.istore 4, 2) := by decide +kernel
theorem d14 : decode yB 14 = .ok (.iload 4, 2) := by decide +kernel
theorem d16 : decode yB 16 = .ok (.iload_n 2, 1) := by decide +kernel
theorem d17 : decode yB 17 = .ok (.if_icmp (.eq) 40, 3) := by decide +kernel
theorem d57 : decode yB 57 = .ok (.aload_n 3, 1) := by decide +kernel
theorem d58 : decode yB 58 = .ok (.areturn, 1) := by decide +kernel
def site : List Cond := [.arrayClass .byte, Cmp5.tab] ++ staticW U16 115 Cmp5.yN
def tab : Cond := tabOf yN yB 6 (some (.array .byte)) site
def P (b : Addr) (A : Cell) (o len : Nat) (args : Array Value) (s : State) : Prop := args = #[.ref b, .int (Int32.ofNat o), .int (Int32.ofNat len)] ∧ Ch b A s ∧ o + len ≤ A.slots.size ∧ len ≤ 536870912 ∧ ∀ i, i < len → ¬ 255 < cv A (o + i)
def E (b : Addr) (A : Cell) (o len : Nat) (r : Option Value) (s u : State) : Prop := NewArr .byte "[B" len (fun j => .int (lo8 (cv A (o + j)))) r s u ∧ u.heap.size = s.heap.size + 1
/-- no char of the range above 255: a new byte[] of their low bytes -/
theorem law (l : Launch) (b : Addr) (A : Cell) (o len : Nat) : Law l yN 3 3 1 18 yB 6 (some (.array .byte)) site (P b A o len) (E b A o len) [] 1 len := by
  refine Law.of_walk (plainFor_of_name (by decide +kernel)) (by decide +kernel) (by decide +kernel) (by decide) (fun _ _ h => by rw [h.1]; rfl) (fun _ U U' hal hh h => ⟨h.1, h.2.1.mv hal hh, h.2.2⟩) (fun r U U' V V' h1 hal h2 h => ⟨NewArr.mv r U U' V V' h1 hal h2 h.1, by rw [h1, h2]; exact h.2⟩) ?_
  intro p e s m args below meth c s₁ X0 hexec hbytes hml hret hlk hnm hown hh0 W hP
  obtain ⟨rfl, hA, l1, l2, hp⟩ := hP
  have a31 := hA.1.2.2.2
  have c1 : Steps p.tables e below (s₁.setTop (entryFrame m #[.ref b, .int (Int32.ofNat o), .int (Int32.ofNat len)] 6)) (s₁.setTop (mkF m 0 #[.val (.ref b), .val (.int (Int32.ofNat o)), .val (.int (Int32.ofNat len)), .unset, .unset, .unset] [])) := entry rfl
  have c2 : Steps p.tables e below (s₁.setTop (entryFrame m #[.ref b, .int (Int32.ofNat o), .int (Int32.ofNat len)] 6)) (s₁.setTop (mkF m 1 #[.val (.ref b), .val (.int (Int32.ofNat o)), .val (.int (Int32.ofNat len)), .unset, .unset, .unset] [.int (Int32.ofNat len)])) := c1.trans (by
    refine XS.iloadN X0.here hexec rfl (hb hbytes d0) rfl ?_
    exact Steps.refl _)
  obtain ⟨T3, B3, X3, ba3, bs3, bv3, bh3, bf3, st3⟩ := X0.anew hexec (atype := .byte) (wk W (.arrayClass .byte)) rfl (by show len * 1 ≤ _; omega) (by omega) (g := (mkF m 1 #[.val (.ref b), .val (.int (Int32.ofNat o)), .val (.int (Int32.ofNat len)), .unset, .unset, .unset] [.int (Int32.ofNat len)])) rfl (hb hbytes d1) (rest := []) rfl (Nat.le_refl _) (by show 0 + len ≤ len; omega)
  rw [hh0] at ba3 st3
  have kp3 : XT.Kept s T3 := (XT.Kept.of_eq hh0).push bh3
  have hA3 := hA.keep X3.warmed.alike (kp3 _ _ hA.1.1)
  have hne : b ≠ s.heap.size := hA.1.ne
  have c4 : Steps p.tables e below (s₁.setTop (entryFrame m #[.ref b, .int (Int32.ofNat o), .int (Int32.ofNat len)] 6)) (T3.setTop (mkF m 3 #[.val (.ref b), .val (.int (Int32.ofNat o)), .val (.int (Int32.ofNat len)), .unset, .unset, .unset] [.ref s.heap.size])) := c2.trans (st3 _ (Steps.refl _))
  have c5 : Steps p.tables e below (s₁.setTop (entryFrame m #[.ref b, .int (Int32.ofNat o), .int (Int32.ofNat len)] 6)) (T3.setTop (mkF m 9 #[.val (.ref b), .val (.int (Int32.ofNat o)), .val (.int (Int32.ofNat len)), .val (.ref s.heap.size), .unset, .unset] [.int (Int32.ofNat len), .int 0, .ref s.heap.size, .int (Int32.ofNat o), .ref b])) := c4.trans (by
    refine XS.astoreN X3.here hexec rfl (hb hbytes d3) rfl rfl rfl ?_
    refine XS.aloadN X3.here hexec rfl (hb hbytes d4) rfl rfl ?_
    refine XS.iloadN X3.here hexec rfl (hb hbytes d5) rfl ?_
    refine XS.aloadN X3.here hexec rfl (hb hbytes d6) rfl rfl ?_
    refine iconstV X3.here hexec rfl 0 (hb hbytes d7) (by decide) ?_
    refine XS.iloadN X3.here hexec rfl (hb hbytes d8) rfl ?_
    exact Steps.refl _)
  obtain ⟨v6, T6, X6, E6, g6⟩ := X3.callS hexec (Cmp5.law l b A s.heap.size B3 o 0 len) hown (wks W (staticW U16 115 Cmp5.yN)) (wk W Cmp5.tab) (W := 0) (Nat.le_of_ble_eq_true rfl) (Nat.le_of_ble_eq_true rfl) (Nat.le_refl _) (by show 0 + len + 0 ≤ len; omega) (g := (mkF m 9 #[.val (.ref b), .val (.int (Int32.ofNat o)), .val (.int (Int32.ofNat len)), .val (.ref s.heap.size), .unset, .unset] [.int (Int32.ofNat len), .int (Int32.ofNat 0), .ref s.heap.size, .int (Int32.ofNat o), .ref b])) rfl (by rw [hml]; rfl) c5 (argsL := [.ref b, .int (Int32.ofNat o), .ref s.heap.size, .int (Int32.ofNat 0), .int (Int32.ofNat len)]) (rest := []) rfl rfl (by show 2 * 0 + 0 ≤ _; decide) (hb hbytes d9) (⟨rfl, hA3, ba3, hne, l1, by rw [bs3]; simp, hp⟩)
  obtain ⟨rfl, B6, p6, f6⟩ := E6
  have c7 : Steps p.tables e below (s₁.setTop (entryFrame m #[.ref b, .int (Int32.ofNat o), .int (Int32.ofNat len)] 6)) (T6.setTop (mkF m 12 #[.val (.ref b), .val (.int (Int32.ofNat o)), .val (.int (Int32.ofNat len)), .val (.ref s.heap.size), .unset, .unset] [.int (Int32.ofNat len)])) := g6
  have c8 : Steps p.tables e below (s₁.setTop (entryFrame m #[.ref b, .int (Int32.ofNat o), .int (Int32.ofNat len)] 6)) (T6.setTop (mkF m 58 #[.val (.ref b), .val (.int (Int32.ofNat o)), .val (.int (Int32.ofNat len)), .val (.ref s.heap.size), .val (.int (Int32.ofNat len)), .unset] [.ref s.heap.size])) := c7.trans (by
    refine XS.istore X6.here hexec rfl (hb hbytes d12) rfl rfl ?_
    refine XS.iload X6.here hexec rfl (hb hbytes d14) rfl ?_
    refine XS.iloadN X6.here hexec rfl (hb hbytes d16) rfl ?_
    refine XS.icmpYes X6.here hexec rfl (pc0 := 17) rfl (hb hbytes d17) rfl (ii_eq_t rfl) (by decide) rfl ?_
    refine XS.aloadN X6.here hexec rfl (hb hbytes d57) rfl rfl ?_
    exact Steps.refl _)
  have X8 := X6.wide (L' := []) (cells' := 1) (slots' := len) (fun x hx hlt => by
    simp only [List.nil_append, copyLocs, List.mem_map, List.mem_range] at hx
    obtain ⟨i, -, rfl⟩ := hx
    exact absurd hlt (Nat.lt_irrefl _)) (Nat.le_refl _) (by omega)
  exact ⟨T6, some (.ref s.heap.size), _, _, _, X8, rfl, rfl, rfl, (fun h => by cases h), ⟨⟨rfl, B6, ba3.like (X3.warmed.alike.symm.trans X6.warmed.alike) p6.1 f6.1 f6.2.1 f6.2.2.1, f6.2.1.trans bv3, by rw [X6.warmed.alike.findClass, f6.1]; exact bf3, by rw [f6.2.2.1, bs3]; simp, fun j hj => by rw [f6.2.2.2 j, if_pos (by omega)]; rfl, kp3.put p6 (Nat.le_refl _)⟩, by rw [p6.2.2, bh3, hh0]; simp⟩, fun fs hl => c8.trans (X8.areturnOut hexec rfl hret rfl (hb hbytes d58) hl)⟩
end Cmp3
namespace CodL
def yN : MethodName := ⟨"java/lang/StringUTF16", "coderFromArrayLen", "([BI)B"⟩
abbrev yB : ByteArray := jdk_52_method_15_code
theorem d0 : decode yB 0 = .ok (.iload_n 1, 1) := by decide +kernel
theorem d1 : decode yB 1 = .ok (.aload_n 0, 1) := by decide +kernel
theorem d2 : decode yB 2 = .ok (.arraylength, 1) := by decide +kernel
theorem d3 : decode yB 3 = .ok (.isub, 1) := by decide +kernel
theorem d4 : decode yB 4 = .ok (.bipush 31, 2) := by decide +kernel
theorem d6 : decode yB 6 = .ok (.iushr, 1) := by decide +kernel
theorem d7 : decode yB 7 = .ok (.i2b, 1) := by decide +kernel
theorem d8 : decode yB 8 = .ok (.ireturn, 1) := by decide +kernel
def site : List Cond := []
def tab : Cond := tabOf yN yB 2 (some .byte) site
def P (d : Addr) (B : Cell) (args : Array Value) (s : State) : Prop := args = #[.ref d, .int (Int32.ofNat B.slots.size)] ∧ Arr .byte d B s
def E (r : Option Value) (s u : State) : Prop := XT.PureE (some (.int 0)) r s u
/-- an array as long as the number of chars: LATIN1 -/
theorem law (l : Launch) (d : Addr) (B : Cell) : Law l yN 2 2 0 0 yB 2 (some .byte) site (P d B) E [] 0 0 := by
  refine Law.of_walk (plainFor_of_name (by decide +kernel)) (by decide +kernel) (by decide +kernel) (by decide) (fun _ _ h => by rw [h.1]; rfl) (fun _ U U' hal hh h => ⟨h.1, h.2.mv hal hh⟩) (fun r U U' V V' h1 hal h2 h => XT.PureE.mv r U U' V V' h1 hal h2 h) ?_
  intro p e s m args below meth c s₁ X0 hexec hbytes hml hret hlk hnm hown hh0 W hP
  obtain ⟨rfl, hB⟩ := hP
  have hB0 := hB.mv X0.warmed.alike hh0
  have c1 : Steps p.tables e below (s₁.setTop (entryFrame m #[.ref d, .int (Int32.ofNat B.slots.size)] 2)) (s₁.setTop (mkF m 0 #[.val (.ref d), .val (.int (Int32.ofNat B.slots.size))] [])) := entry rfl
  have c2 : Steps p.tables e below (s₁.setTop (entryFrame m #[.ref d, .int (Int32.ofNat B.slots.size)] 2)) (s₁.setTop (mkF m 2 #[.val (.ref d), .val (.int (Int32.ofNat B.slots.size))] [.ref d, .int (Int32.ofNat B.slots.size)])) := c1.trans (by
    refine XS.iloadN X0.here hexec rfl (hb hbytes d0) rfl ?_
    refine XS.aloadN X0.here hexec rfl (hb hbytes d1) rfl rfl ?_
    exact Steps.refl _)
  have c3 : Steps p.tables e below (s₁.setTop (entryFrame m #[.ref d, .int (Int32.ofNat B.slots.size)] 2)) (s₁.setTop (mkF m 8 #[.val (.ref d), .val (.int (Int32.ofNat B.slots.size))] [.int (lo8 (ushr (Int32.ofNat B.slots.size - Int32.ofNat B.slots.size) 31))])) := c2.trans (by
    refine X0.alen hexec hB0 rfl rfl (hb hbytes d2) ?_
    refine XS.isub X0.here hexec rfl (hb hbytes d3) rfl ?_
    refine bipushV X0.here hexec rfl 31 (hb hbytes d4) (by decide) ?_
    refine iushr X0.here hexec rfl (hb hbytes d6) rfl ?_
    refine i2b X0.here hexec rfl (hb hbytes d7) rfl ?_
    exact Steps.refl _)
  have e0 : lo8 (ushr (Int32.ofNat B.slots.size - Int32.ofNat B.slots.size) 31) = 0 := by rw [Int32.sub_self]; decide
  rw [e0] at c3
  exact ⟨s₁, some (.int 0), _, _, _, X0, rfl, rfl, rfl, (fun h => by cases h), ⟨rfl, hh0⟩, fun fs hl => c3.trans (X0.ireturnOut hexec hret rfl (Or.inr (Or.inr (Or.inl rfl))) (hb hbytes d8) hl)⟩
end CodL
/-- the String at a is Latin-1 over a new byte[] (the heap's one new cell): the low bytes of the len chars of A from o on; every cell but a is kept -/
def Got (a : Addr) (D : Cell) (fV fC : Field) (A : Cell) (o len : Nat) (r : Option Value) (s u : State) : Prop := r = none ∧ ∃ D' V : Cell, Blank "java/lang/String" a D' u ∧ Same D D' [fV.slot, fC.slot] ∧ D'.slots[fV.slot]? = some (.ref s.heap.size) ∧ D'.slots[fC.slot]? = some (.int 0) ∧ Arr .byte s.heap.size V u ∧ V.vm = .none ∧ u.vm.findClass "[B" = some V.cls ∧ V.slots.size = len ∧ (∀ j, j < len → V.slots[j]? = some (.int (lo8 (cv A (o + j))))) ∧ (∀ (y : Addr) (c : Cell), y ≠ a → s.heap[y]? = some c → u.heap[y]? = some c) ∧ u.heap.size = s.heap.size + 1
theorem Got.mv {a : Addr} {D A : Cell} {fV fC : Field} {o len : Nat} : ∀ r (U U' V V' : State), U'.heap = U.heap → V.vm.Alike V'.vm → V'.heap = V.heap → Got a D fV fC A o len r U V → Got a D fV fC A o len r U' V' :=
  fun r U U' V V' h1 hal h2 ⟨e0, D', X, a1, a2, a3, a4, a5, a6, a7, a8, a9, a10, a11⟩ => ⟨e0, D', X, a1.mv hal h2, a2, by rw [h1]; exact a3, a4, by rw [h1]; exact a5.mv hal h2, a6, by rw [hal.findClass]; exact a7, a8, a9, by rw [h1, h2]; exact a10, by rw [h1, h2]; exact a11⟩
namespace New4
def yN : MethodName := ⟨"java/lang/String", "<init>", "([CIILjava/lang/Void;)V"⟩
abbrev yB : ByteArray := jdk_42_method_149_code
theorem d0 : decode yB 0 = .ok (.aload_n 0, 1) := by decide +kernel
theorem d1 : decode yB 1 = .ok (.invokespecial 1, 3) := by decide +kernel
theorem d4 : decode yB 4 = .ok (.iload_n 3, 1) := by decide +kernel
theorem d5 : decode yB 5 = .ok (.ifCond (.ne) 22, 3) := by decide +kernel
theorem d27 : decode yB 27 = .ok (.getstatic 38, 3) := by decide +kernel
theorem d30 : decode yB 30 = .ok (.ifCond (.eq) 28, 3) := by decide +kernel
theorem d33 : decode yB 33 = .ok (.aload_n 1, 1) := by decide +kernel
theorem d34 : decode yB 34 = .ok (.iload_n 2, 1) := by decide +kernel
theorem d35 : decode yB 35 = .ok (.iload_n 3, 1) := by decide +kernel
theorem d36 : decode yB 36 = .ok (.invokestatic 177, 3) := by decide +kernel
theorem d39 : decode yB 39 = .ok (.astore 5, 2) := by decide +kernel
theorem d41 : decode yB 41 = .ok (.aload_n 0, 1) := by decide +kernel
theorem d42 : decode yB 42 = .ok (.aload 5, 2) := by decide +kernel
theorem d44 : decode yB 44 = .ok (.iload_n 3, 1) := by decide +kernel
theorem d45 : decode yB 45 = .ok (.invokestatic 47, 3) := by decide +kernel
theorem d48 : decode yB 48 = .ok (.putfield 15, 3) := by decide +kernel
theorem d51 : decode yB 51 = .ok (.aload_n 0, 1) := by decide +kernel
theorem d52 : decode yB 52 = .ok (.aload 5, 2) := by decide +kernel
theorem d54 : decode yB 54 = .ok (.putfield 9, 3) := by decide +kernel
theorem d57 : decode yB 57 = .ok (.return_, 1) := by decide +kernel
def site : List Cond := [.fieldLink "java/lang/String" 38 "java/lang/String" "COMPACT_STRINGS" "Z", Cmp3.tab, CodL.tab, .laysFinal "java/lang/String" "java/lang/String" "value" "[B", .fieldLink "java/lang/String" 9 "java/lang/String" "value" "[B", .laysFinal "java/lang/String" "java/lang/String" "coder" "B", .fieldLink "java/lang/String" 15 "java/lang/String" "coder" "B"] ++ objW "java/lang/String" 1 ++ staticW "java/lang/String" 177 Cmp3.yN ++ staticW "java/lang/String" 47 CodL.yN
def tab : Cond := tabOf yN yB 6 none site
def P (a : Addr) (D : Cell) (fV fC : Field) (b : Addr) (A : Cell) (z : Int32) (o len : Nat) (args : Array Value) (s : State) : Prop := args = #[.ref a, .ref b, .int (Int32.ofNat o), .int (Int32.ofNat len), .null] ∧ Blank "java/lang/String" a D s ∧ Found "java/lang/String" "value" "[B" fV s ∧ Found "java/lang/String" "coder" "B" fC s ∧ Ch b A s ∧ StaticIs s "java/lang/String" "COMPACT_STRINGS" "Z" (.int z) ∧ ¬ z = 0 ∧ 0 < len ∧ o + len ≤ A.slots.size ∧ len ≤ 536870912 ∧ ∀ i, i < len → ¬ 255 < cv A (o + i)
def E (a : Addr) (D : Cell) (fV fC : Field) (A : Cell) (o len : Nat) (r : Option Value) (s u : State) : Prop := Got a D fV fC A o len r s u
/-- len > 0, no char of the range above 255: a Latin-1 String of their low bytes -/
theorem law (l : Launch) (a : Addr) (D : Cell) (fV fC : Field) (b : Addr) (A : Cell) (z : Int32) (o len : Nat) : Law l yN 5 4 2 35 yB 6 none site (P a D fV fC b A z o len) (E a D fV fC A o len) [⟨a, fC.slot⟩, ⟨a, fV.slot⟩] 1 len := by
  refine Law.of_walk (plainFor_of_name (by decide +kernel)) (by decide +kernel) (by decide +kernel) (by decide) (fun _ _ h => by rw [h.1]; rfl) (fun _ U U' hal hh h => ⟨h.1, h.2.1.mv hal hh, h.2.2.1.al hal, h.2.2.2.1.al hal, h.2.2.2.2.1.mv hal hh, h.2.2.2.2.2.1.there hal hh, h.2.2.2.2.2.2⟩) (fun r U U' V V' h1 hal h2 h => Got.mv r U U' V V' h1 hal h2 h) ?_
  intro p e s m args below meth c s₁ X0 hexec hbytes hml hret hlk hnm hown hh0 W hP
  obtain ⟨rfl, hB, f1, f2, hA, s1, hz, l0, l1, l2, hp⟩ := hP
  have a31 := hA.1.2.2.2
  have c1 : Steps p.tables e below (s₁.setTop (entryFrame m #[.ref a, .ref b, .int (Int32.ofNat o), .int (Int32.ofNat len), .null] 6)) (s₁.setTop (mkF m 0 #[.val (.ref a), .val (.ref b), .val (.int (Int32.ofNat o)), .val (.int (Int32.ofNat len)), .val .null, .unset] [])) := entry rfl
  have c2 : Steps p.tables e below (s₁.setTop (entryFrame m #[.ref a, .ref b, .int (Int32.ofNat o), .int (Int32.ofNat len), .null] 6)) (s₁.setTop (mkF m 1 #[.val (.ref a), .val (.ref b), .val (.int (Int32.ofNat o)), .val (.int (Int32.ofNat len)), .val .null, .unset] [.ref a])) := c1.trans (by
    refine XS.aloadN X0.here hexec rfl (hb hbytes d0) rfl rfl ?_
    exact Steps.refl _)
  obtain ⟨T3, X3, q3, st3⟩ := X0.oinit hexec hown (wks W (objW "java/lang/String" 1)) (g := (mkF m 1 #[.val (.ref a), .val (.ref b), .val (.int (Int32.ofNat o)), .val (.int (Int32.ofNat len)), .val .null, .unset] [.ref a])) rfl (by rw [hml]; rfl) (rest := []) rfl (hb hbytes d1) (W := 0) (by show 2 * 0 + 0 ≤ _; decide) (Nat.le_of_ble_eq_true rfl) (Nat.le_of_ble_eq_true rfl)
  have hh3 := q3.trans hh0
  have c4 : Steps p.tables e below (s₁.setTop (entryFrame m #[.ref a, .ref b, .int (Int32.ofNat o), .int (Int32.ofNat len), .null] 6)) (T3.setTop (mkF m 27 #[.val (.ref a), .val (.ref b), .val (.int (Int32.ofNat o)), .val (.int (Int32.ofNat len)), .val .null, .unset] [])) := (c2.trans (st3 _ (Steps.refl _))).trans (by
    refine XS.iloadN X3.here hexec rfl (hb hbytes d4) rfl ?_
    refine XS.ifYes X3.here hexec rfl (pc0 := 5) rfl (hb hbytes d5) rfl (i0_ne_t (nz32 (by omega) l0)) (by decide) rfl ?_
    exact Steps.refl _)
  obtain ⟨T5, X5, q5, st5⟩ := X3.sget hexec hown (wk W (.fieldLink "java/lang/String" 38 "java/lang/String" "COMPACT_STRINGS" "Z")) s1 (fun _ _ h => by rw [hh3]; exact h) (g := (mkF m 27 #[.val (.ref a), .val (.ref b), .val (.int (Int32.ofNat o)), .val (.int (Int32.ofNat len)), .val .null, .unset] [])) rfl (hb hbytes d27)
  have hh5 := q5.trans hh3
  have c6 : Steps p.tables e below (s₁.setTop (entryFrame m #[.ref a, .ref b, .int (Int32.ofNat o), .int (Int32.ofNat len), .null] 6)) (T5.setTop (mkF m 30 #[.val (.ref a), .val (.ref b), .val (.int (Int32.ofNat o)), .val (.int (Int32.ofNat len)), .val .null, .unset] [.int z])) := c4.trans (st5 _ (Steps.refl _))
  have c7 : Steps p.tables e below (s₁.setTop (entryFrame m #[.ref a, .ref b, .int (Int32.ofNat o), .int (Int32.ofNat len), .null] 6)) (T5.setTop (mkF m 36 #[.val (.ref a), .val (.ref b), .val (.int (Int32.ofNat o)), .val (.int (Int32.ofNat len)), .val .null, .unset] [.int (Int32.ofNat len), .int (Int32.ofNat o), .ref b])) := c6.trans (by
    refine XS.ifNo X5.here hexec rfl (hb hbytes d30) rfl (i0_eq_f hz) ?_
    refine XS.aloadN X5.here hexec rfl (hb hbytes d33) rfl rfl ?_
    refine XS.iloadN X5.here hexec rfl (hb hbytes d34) rfl ?_
    refine XS.iloadN X5.here hexec rfl (hb hbytes d35) rfl ?_
    exact Steps.refl _)
  obtain ⟨v8, T8, X8, E8, g8⟩ := X5.callS hexec (Cmp3.law l b A o len) hown (wks W (staticW "java/lang/String" 177 Cmp3.yN)) (wk W Cmp3.tab) (W := 0) (Nat.le_of_ble_eq_true rfl) (Nat.le_of_ble_eq_true rfl) (Nat.le_refl _) (by show 0 + len ≤ len; omega) (g := (mkF m 36 #[.val (.ref a), .val (.ref b), .val (.int (Int32.ofNat o)), .val (.int (Int32.ofNat len)), .val .null, .unset] [.int (Int32.ofNat len), .int (Int32.ofNat o), .ref b])) rfl (by rw [hml]; rfl) c7 (argsL := [.ref b, .int (Int32.ofNat o), .int (Int32.ofNat len)]) (rest := []) rfl rfl (by show 2 * 0 + 0 ≤ _; decide) (hb hbytes d36) (⟨rfl, hA.mv X5.warmed.alike hh5, l1, l2, hp⟩)
  obtain ⟨e8, z8⟩ := E8
  obtain ⟨rfl, N, n1, n2, n3, n4, n5, n6⟩ := NewArr.mv _ T5 s _ _ hh5.symm (Vm.Alike.refl _) rfl e8
  rw [hh5] at z8
  have hB1 := hB.keep X8.warmed.alike (n6 _ _ hB.1)
  have hne : s.heap.size ≠ a := (Nat.ne_of_lt (Array.getElem?_eq_some_iff.mp hB.1).1).symm
  have c9 : Steps p.tables e below (s₁.setTop (entryFrame m #[.ref a, .ref b, .int (Int32.ofNat o), .int (Int32.ofNat len), .null] 6)) (T8.setTop (mkF m 39 #[.val (.ref a), .val (.ref b), .val (.int (Int32.ofNat o)), .val (.int (Int32.ofNat len)), .val .null, .unset] [.ref s.heap.size])) := g8
  have c10 : Steps p.tables e below (s₁.setTop (entryFrame m #[.ref a, .ref b, .int (Int32.ofNat o), .int (Int32.ofNat len), .null] 6)) (T8.setTop (mkF m 45 #[.val (.ref a), .val (.ref b), .val (.int (Int32.ofNat o)), .val (.int (Int32.ofNat len)), .val .null, .val (.ref s.heap.size)] [.int (Int32.ofNat N.slots.size), .ref s.heap.size, .ref a])) := by
    have hc : Steps p.tables e below (s₁.setTop (entryFrame m #[.ref a, .ref b, .int (Int32.ofNat o), .int (Int32.ofNat len), .null] 6)) (T8.setTop (mkF m 45 #[.val (.ref a), .val (.ref b), .val (.int (Int32.ofNat o)), .val (.int (Int32.ofNat len)), .val .null, .val (.ref s.heap.size)] [.int (Int32.ofNat len), .ref s.heap.size, .ref a])) := c9.trans (by
      refine XS.astore X8.here hexec rfl (hb hbytes d39) rfl rfl rfl ?_
      refine XS.aloadN X8.here hexec rfl (hb hbytes d41) rfl rfl ?_
      refine XS.aload X8.here hexec rfl (hb hbytes d42) rfl rfl ?_
      refine XS.iloadN X8.here hexec rfl (hb hbytes d44) rfl ?_
      exact Steps.refl _)
    rw [n4]; exact hc
  obtain ⟨v11, T11, X11, E11, g11⟩ := X8.callS hexec (CodL.law l s.heap.size N) hown (wks W (staticW "java/lang/String" 47 CodL.yN)) (wk W CodL.tab) (W := 1) (Nat.le_of_ble_eq_true rfl) (Nat.le_of_ble_eq_true rfl) (Nat.le_refl _) (by show 0 + len + 0 ≤ len; omega) (g := (mkF m 45 #[.val (.ref a), .val (.ref b), .val (.int (Int32.ofNat o)), .val (.int (Int32.ofNat len)), .val .null, .val (.ref s.heap.size)] [.int (Int32.ofNat N.slots.size), .ref s.heap.size, .ref a])) rfl (by rw [hml]; rfl) c10 (argsL := [.ref s.heap.size, .int (Int32.ofNat N.slots.size)]) (rest := [.ref a]) rfl rfl (by show 2 * 0 + (1 + 0) ≤ _; decide) (hb hbytes d45) (⟨rfl, n1⟩)
  obtain ⟨rfl, q11⟩ := E11
  have hB11 := hB1.mv (X8.warmed.alike.symm.trans X11.warmed.alike) q11
  have c12 : Steps p.tables e below (s₁.setTop (entryFrame m #[.ref a, .ref b, .int (Int32.ofNat o), .int (Int32.ofNat len), .null] 6)) (T11.setTop (mkF m 48 #[.val (.ref a), .val (.ref b), .val (.int (Int32.ofNat o)), .val (.int (Int32.ofNat len)), .val .null, .val (.ref s.heap.size)] [.int 0, .ref a])) := g11
  obtain ⟨T13, X13, p13, bl13, sl13, st13⟩ := X11.finit hexec hown (wk W (.fieldLink "java/lang/String" 15 "java/lang/String" "coder" "B")) (Or.inr ⟨_, (wk W (.laysFinal "java/lang/String" "java/lang/String" "coder" "B"))⟩) (Or.inl ⟨rfl, hnm⟩) f2 (Or.inl rfl) hB11 (t := .byte) (by decide +kernel) rfl (g := (mkF m 48 #[.val (.ref a), .val (.ref b), .val (.int (Int32.ofNat o)), .val (.int (Int32.ofNat len)), .val .null, .val (.ref s.heap.size)] [.int 0, .ref a])) rfl (rest := []) rfl (hb hbytes d48)
  have c14 : Steps p.tables e below (s₁.setTop (entryFrame m #[.ref a, .ref b, .int (Int32.ofNat o), .int (Int32.ofNat len), .null] 6)) (T13.setTop (mkF m 54 #[.val (.ref a), .val (.ref b), .val (.int (Int32.ofNat o)), .val (.int (Int32.ofNat len)), .val .null, .val (.ref s.heap.size)] [.ref s.heap.size, .ref a])) := (c12.trans (st13 _ (Steps.refl _))).trans (by
    refine XS.aloadN X13.here hexec rfl (hb hbytes d51) rfl rfl ?_
    refine XS.aload X13.here hexec rfl (hb hbytes d52) rfl rfl ?_
    exact Steps.refl _)
  obtain ⟨T15, X15, p15, bl15, sl15, st15⟩ := X13.finit hexec hown (wk W (.fieldLink "java/lang/String" 9 "java/lang/String" "value" "[B")) (Or.inr ⟨_, (wk W (.laysFinal "java/lang/String" "java/lang/String" "value" "[B"))⟩) (Or.inl ⟨rfl, hnm⟩) f1 (Or.inl rfl) bl13 (t := (.array .byte)) (by decide +kernel) rfl (g := (mkF m 54 #[.val (.ref a), .val (.ref b), .val (.int (Int32.ofNat o)), .val (.int (Int32.ofNat len)), .val .null, .val (.ref s.heap.size)] [.ref s.heap.size, .ref a])) rfl (rest := []) rfl (hb hbytes d54)
  have c16 : Steps p.tables e below (s₁.setTop (entryFrame m #[.ref a, .ref b, .int (Int32.ofNat o), .int (Int32.ofNat len), .null] 6)) (T15.setTop (mkF m 57 #[.val (.ref a), .val (.ref b), .val (.int (Int32.ofNat o)), .val (.int (Int32.ofNat len)), .val .null, .val (.ref s.heap.size)] [])) := c14.trans (st15 _ (Steps.refl _))
  have ap := apart (Or.inr ⟨_, (wk W (.laysFinal "java/lang/String" "java/lang/String" "value" "[B"))⟩) (Or.inr ⟨_, (wk W (.laysFinal "java/lang/String" "java/lang/String" "coder" "B"))⟩) f1 f2 (t₁ := .array .byte) (t₂ := .byte) (by decide +kernel) (by decide +kernel) (by decide)
  have al := X8.warmed.alike.symm.trans X15.warmed.alike
  have n7 : T11.heap[s.heap.size]? = some N := by rw [q11]; exact n1.1
  exact ⟨T15, none, _, _, _, X15, by simp, rfl, by omega, (fun _ => rfl), ⟨rfl, _, N, bl15, ((Same.refl D _).set _ (by simp)).set _ (by simp), sl15, (Cell.slots_setSlot_ne _ ap).trans sl13, n1.keep al (p15.other hne (p13.other hne n7)), n2, by rw [al.findClass]; exact n3, n4, n5, fun y c h1 h2 => p15.other h1 (p13.other h1 (by rw [q11]; exact n6 y c h2)), by rw [p15.2.2, p13.2.2, q11]; exact z8⟩, fun fs hl => c16.trans (X15.returnOut hexec hret (hb hbytes d57) hl)⟩
end New4
namespace New1
def yN : MethodName := ⟨"java/lang/String", "<init>", "([C)V"⟩
abbrev yB : ByteArray := jdk_42_method_3_code
theorem d0 : decode yB 0 = .ok (.aload_n 0, 1) := by decide +kernel
theorem d1 : decode yB 1 = .ok (.aload_n 1, 1) := by decide +kernel
theorem d2 : decode yB 2 = .ok (.iconst 0, 1) := by decide +kernel
theorem d3 : decode yB 3 = .ok (.aload_n 1, 1) := by decide +kernel
theorem d4 : decode yB 4 = .ok (.arraylength, 1) := by decide +kernel
theorem d5 : decode yB 5 = .ok (.aconst_null, 1) := by decide +kernel
theorem d6 : decode yB 6 = .ok (.invokespecial 27, 3) := by decide +kernel
theorem d9 : decode yB 9 = .ok (.return_, 1) := by decide +kernel
def site : List Cond := [New4.tab] ++ initW "java/lang/String" 27 New4.yN
def tab : Cond := tabOf yN yB 2 none site
def P (a : Addr) (D : Cell) (fV fC : Field) (b : Addr) (A : Cell) (z : Int32) (args : Array Value) (s : State) : Prop := args = #[.ref a, .ref b] ∧ Blank "java/lang/String" a D s ∧ Found "java/lang/String" "value" "[B" fV s ∧ Found "java/lang/String" "coder" "B" fC s ∧ Ch b A s ∧ StaticIs s "java/lang/String" "COMPACT_STRINGS" "Z" (.int z) ∧ ¬ z = 0 ∧ 0 < A.slots.size ∧ A.slots.size ≤ 536870912 ∧ ∀ i, i < A.slots.size → ¬ 255 < cv A i
def E (a : Addr) (D : Cell) (fV fC : Field) (A : Cell) (r : Option Value) (s u : State) : Prop := Got a D fV fC A 0 A.slots.size r s u
/-- new String(chars), not empty, no char above 255: a Latin-1 String of their low bytes -/
theorem law (l : Launch) (a : Addr) (D : Cell) (fV fC : Field) (b : Addr) (A : Cell) (z : Int32) : Law l yN 2 1 3 52 yB 2 none site (P a D fV fC b A z) (E a D fV fC A) [⟨a, fC.slot⟩, ⟨a, fV.slot⟩] 1 A.slots.size := by
  refine Law.of_walk (plainFor_of_name (by decide +kernel)) (by decide +kernel) (by decide +kernel) (by decide) (fun _ _ h => by rw [h.1]; rfl) (fun _ U U' hal hh h => ⟨h.1, h.2.1.mv hal hh, h.2.2.1.al hal, h.2.2.2.1.al hal, h.2.2.2.2.1.mv hal hh, h.2.2.2.2.2.1.there hal hh, h.2.2.2.2.2.2⟩) (fun r U U' V V' h1 hal h2 h => Got.mv r U U' V V' h1 hal h2 h) ?_
  intro p e s m args below meth c s₁ X0 hexec hbytes hml hret hlk hnm hown hh0 W hP
  obtain ⟨rfl, hB, f1, f2, hA, s1, hz, l0, l2, hp⟩ := hP
  have c1 : Steps p.tables e below (s₁.setTop (entryFrame m #[.ref a, .ref b] 2)) (s₁.setTop (mkF m 0 #[.val (.ref a), .val (.ref b)] [])) := entry rfl
  have c2 : Steps p.tables e below (s₁.setTop (entryFrame m #[.ref a, .ref b] 2)) (s₁.setTop (mkF m 6 #[.val (.ref a), .val (.ref b)] [.null, .int (Int32.ofNat A.slots.size), .int 0, .ref b, .ref a])) := c1.trans (by
    refine XS.aloadN X0.here hexec rfl (hb hbytes d0) rfl rfl ?_
    refine XS.aloadN X0.here hexec rfl (hb hbytes d1) rfl rfl ?_
    refine iconstV X0.here hexec rfl 0 (hb hbytes d2) (by decide) ?_
    refine XS.aloadN X0.here hexec rfl (hb hbytes d3) rfl rfl ?_
    refine X0.alen hexec (hA.1.mv X0.warmed.alike hh0) rfl rfl (hb hbytes d4) ?_
    refine XS.aconstNull X0.here hexec rfl (hb hbytes d5) ?_
    exact Steps.refl _)
  obtain ⟨v3, T3, X3, E3, g3⟩ := X0.callN hexec (New4.law l a D fV fC b A z 0 A.slots.size) rfl hown (wks W (initW "java/lang/String" 27 New4.yN)) (W New4.tab (by simp only [site, List.mem_cons, List.mem_append, true_or, or_true])) (W := 0) (Nat.le_of_ble_eq_true rfl) (Nat.le_of_ble_eq_true rfl) (Nat.le_refl _) (by show 0 + A.slots.size ≤ A.slots.size; omega) (g := (mkF m 6 #[.val (.ref a), .val (.ref b)] [.null, .int (Int32.ofNat A.slots.size), .int (Int32.ofNat 0), .ref b, .ref a])) rfl (by rw [hml]; rfl) c2 (argsL := [.ref b, .int (Int32.ofNat 0), .int (Int32.ofNat A.slots.size), .null]) (rest := []) rfl rfl (by show 2 * 0 + 0 ≤ _; decide) (hb hbytes d6) (⟨rfl, hB.mv X0.warmed.alike hh0, f1.al X0.warmed.alike, f2.al X0.warmed.alike, hA.mv X0.warmed.alike hh0, s1.there X0.warmed.alike hh0, hz, l0, by omega, l2, fun i hi => by rw [Nat.zero_add]; exact hp i hi⟩)
  have e0 := Got.mv _ s₁ s _ _ hh0.symm (Vm.Alike.refl _) rfl E3
  obtain rfl := e0.1
  have c4 : Steps p.tables e below (s₁.setTop (entryFrame m #[.ref a, .ref b] 2)) (T3.setTop (mkF m 9 #[.val (.ref a), .val (.ref b)] [])) := g3
  exact ⟨T3, none, _, _, _, X3, by simp, rfl, by omega, (fun _ => rfl), e0, fun fs hl => c4.trans (X3.returnOut hexec hret (hb hbytes d9) hl)⟩
theorem pays {l : Launch} {R : Room} {p : Program} {e : Env} {below : List Frame} {s : State} {sargs : Array Value} {len W : Nat} (a : Addr) (D : Cell) (fV fC : Field) (b : Addr) (A : Cell) (z : Int32) (htab : tab.before sargs s = true) (hfr : 4 ≤ R.frames) (hlo : W + 65 ≤ R.locals) :
    Back l R p e below s sargs yN len W (fun A₁ a₁ => A₁.cells + 1 ≤ R.cells ∧ A₁.slots + A.slots.size ≤ R.slots ∧ P a D fV fC b A z a₁ A₁.U) (fun A₁ _ v₁ B₁ => E a D fV fC A v₁ A₁.U B₁.U ∧ B₁.locs = A₁.locs ++ [⟨a, fC.slot⟩, ⟨a, fV.slot⟩] ∧ B₁.cells = A₁.cells + 1 ∧ B₁.slots = A₁.slots + A.slots.size) :=
  (law l a D fV fC b A z).pays htab hfr (by omega)
end New1
end StrChars
namespace StrChars.Road
open Jvm Sem ClassFile Op Lib Jvm.Stand Jvm.Free Jvm.Free.XT
open Jvm.Lib.Cold (StaticIs)
abbrev ST : String := "java/lang/String"
/-- every table word that New1's law asks, flat -/
abbrev words : List Jvm.Cond := [.code New1.yN New1.yB 2 none, .initialized ST, .methodLink ST 27 New4.yN, .instanceMethod New4.yN,
  .code New4.yN New4.yB 6 none, .fieldLink ST 38 ST "COMPACT_STRINGS" "Z", .laysFinal ST ST "value" "[B", .fieldLink ST 9 ST "value" "[B", .laysFinal ST ST "coder" "B", .fieldLink ST 15 ST "coder" "B",
  .methodLink ST 1 Lib.objectInit, .instanceMethod Lib.objectInit, .code Lib.objectInit ⟨#[0xb1]⟩ 1 none, .methodLink ST 177 Cmp3.yN, .static Cmp3.yN, .methodLink ST 47 CodL.yN, .static CodL.yN,
  .code Cmp3.yN Cmp3.yB 6 (some (.array .byte)), .initialized U16, .arrayClass .byte, .methodLink U16 115 Cmp5.yN, .static Cmp5.yN, .code Cmp5.yN Cmp5.yB 7 (some .int), .code CodL.yN CodL.yB 2 (some .byte)]
theorem tab_of {a : Array Value} {s : State} (h : ∀ w ∈ words, w.before a s = true) : New1.tab.before a s = true := by
  have h5 : Cmp5.tab.before a s = true := unparts (wk h (.code Cmp5.yN Cmp5.yB 7 (some .int))) (wks h (.initialized Cmp5.yN.cls :: Cmp5.site))
  have hc : CodL.tab.before a s = true := unparts (wk h (.code CodL.yN CodL.yB 2 (some .byte))) (wks h (.initialized CodL.yN.cls :: CodL.site))
  have q5 : ∀ w ∈ Cmp5.tab :: words, w.before a s = true := fun w hw => (List.mem_cons.mp hw).elim (fun e => e ▸ h5) (h w)
  have h3 : Cmp3.tab.before a s = true := unparts (wk q5 (.code Cmp3.yN Cmp3.yB 6 (some (.array .byte)))) (wks q5 (.initialized Cmp3.yN.cls :: Cmp3.site))
  have q3 : ∀ w ∈ Cmp3.tab :: CodL.tab :: words, w.before a s = true := fun w hw => (List.mem_cons.mp hw).elim (fun e => e ▸ h3) fun hw => (List.mem_cons.mp hw).elim (fun e => e ▸ hc) (h w)
  have h4 : New4.tab.before a s = true := unparts (wk q3 (.code New4.yN New4.yB 6 none)) (wks q3 (.initialized New4.yN.cls :: New4.site))
  have q4 : ∀ w ∈ New4.tab :: words, w.before a s = true := fun w hw => (List.mem_cons.mp hw).elim (fun e => e ▸ h4) (h w)
  exact unparts (wk q4 (.code New1.yN New1.yB 2 none)) (wks q4 (.initialized New1.yN.cls :: New1.site))
/-- the words ride from the start Z to the walk's own state -/
theorem moved {Z s : State} {a0 args : Array Value} (hZ : Z.Warmed39 s.vm) (hw : ∀ d ∈ words, d.before a0 Z = true) : ∀ d ∈ words, d.before args s = true := fun d hd => by
  have q := hw d hd
  have t : ∀ d ∈ words, d = .arrayClass .byte ∨ (d.onTables && d.keepsFace) = true := by decide +kernel
  rcases t d hd with rfl | t
  · exact RoadKit.mvA hZ q
  · exact RoadKit.mv hZ q t
/-- WHAT COMES BACK, over the tables of the start Z: h the heap at the call, h' behind it -/
def Q (Z : State) (x : Addr) (A : Cell) (h : Heap) (v : Option Value) (h' : Heap) (L : List Loc) : Prop := v = none ∧ (∀ y ∈ L, y.base = x) ∧ RoadKit.Keep h h' [x] ∧ h'.size = h.size + 1 ∧ RoadKit.Exa Z h' x ST ∧ RoadKit.Fld Z h' x ST "value" "[B" (.ref h.size) ∧ RoadKit.Fld Z h' x ST "coder" "B" (.int 0) ∧
  (∃ V : Cell, RoadKit.Arr Z h' h.size V .byte ∧ V.vm = .none ∧ Z.vm.findClass "[B" = some V.cls ∧ V.slots.size = A.slots.size ∧ ∀ j, j < A.slots.size → V.slots[j]? = some (.int (lo8 (cv A j)))) ∧
  ∀ (O n d : String) (w : Value), RoadKit.Fld Z h x O n d w → RoadKit.slotOf Z O n d ≠ RoadKit.slotOf Z ST "value" "[B" → RoadKit.slotOf Z O n d ≠ RoadKit.slotOf Z ST "coder" "B" → RoadKit.Fld Z h' x O n d w
/-- **new String(chars) AT A CALL, IN THE ROAD'S FORM**: for specialBack behind newO: x the fresh String, b the char[] with the cell A -/
theorem back {p : Program} {l : Launch} {e : Env} {R : Room} {s : State} {args : Array Value} {below : List Frame} {len W : Nat} {Z : State} {a0 : Array Value} {h : Heap} (hZ : Z.Warmed39 s.vm) (hw : ∀ d ∈ words, d.before a0 Z = true) {kI : Nat} (wi : (Jvm.Cond.instantiable ST kI).before a0 Z = true)
    {x b : Addr} {A : Cell} {z : Int32} {v0 c0 : Value} (E : RoadKit.Exa Z h x ST) (V : RoadKit.Fld Z h x ST "value" "[B" v0) (C : RoadKit.Fld Z h x ST "coder" "B" c0) (K : RoadKit.Arr Z h b A .char) (hty : Typed .char A) (S : RoadKit.Sta Z h ST "COMPACT_STRINGS" "Z" (.int z)) (hz : ¬ z = 0)
    (l0 : 0 < A.slots.size) (l2 : A.slots.size ≤ 536870912) (hp : ∀ i, i < A.slots.size → ¬ 255 < cv A i) (hfr : 4 ≤ R.frames) (hlo : W + 65 ≤ R.locals) :
    Back l R p e below s args New1.yN len W (fun P a => a = #[.ref x, .ref b] ∧ P.U.heap = h ∧ P.cells + 1 ≤ R.cells ∧ P.slots + A.slots.size ≤ R.slots)
      (fun P _ v B => ∃ L, Q Z x A h v B.U.heap L ∧ B.locs = P.locs ++ L ∧ B.cells = P.cells + 1 ∧ B.slots = P.slots + A.slots.size) := by
  intro m meth c P g ig mk a X hg hsize hdg hW hn hp'
  obtain ⟨rfl, rfl, r1, r2⟩ := hp'
  have al : Z.vm.Alike P.U.vm := hZ.alike.trans X.warmed.alike
  obtain ⟨D, cfV, kV, iV, fV, hD, gV, stV, knV, obV, asV, slV⟩ := id V
  obtain ⟨D', cfC, kC, iC, fC, hD', gC, stC, -, -, asC, slC⟩ := id C
  cases hD.symm.trans hD'
  obtain ⟨D2, kD, e1, e2, e3, e4, e5⟩ := id E
  cases hD.symm.trans e1
  obtain ⟨c2, k2, i1, i2, i3, -⟩ := Cond.instantiable_spec wi
  cases e2.symm.trans i1
  cases e3.symm.trans i2
  obtain ⟨kU, u1, u2⟩ := al.2.2 _ _ e3
  have hB : Blank ST x D P.U := ⟨hD, ⟨knV, fun q hq => by rw [hq] at obV; cases obV⟩, by rw [al.findClass]; exact e2, kU, u1, by rw [u2]; exact i3, by rw [u2]; exact e5 i3⟩
  have F1 : Found ST "value" "[B" fV P.U := ⟨SBG.found_only al ⟨cfV, kV, iV, gV⟩, stV⟩
  have F2 : Found ST "coder" "B" fC P.U := ⟨SBG.found_only al ⟨cfC, kC, iC, gC⟩, stC⟩
  have hA : Ch b A P.U := ⟨⟨K.1, State.isArrayOf_alike al K.2.1, K.2.2, by omega⟩, hty⟩
  have hS : StaticIs P.U ST "COMPACT_STRINGS" "Z" (.int z) := by
    obtain ⟨cfS, iS, kS, fS, st, cS, t1, t2, t3, t4, t5, t6, t7⟩ := S
    exact StaticIs.there (s := { Z with heap := P.U.heap }) ⟨cfS, iS, kS, fS, st, cS, t1, t2, t3, t4, t5, (fun q => by rw [q] at t6; cases t6), t7⟩ al rfl
  obtain ⟨v, B, X', ⟨⟨hv, E', V', q1, q2, q3, q4, q5, q6, q7, q8, q9, q10, q11⟩, hl, hc, hs⟩, st⟩ := New1.pays x D fV fC b A z (tab_of (moved hZ hw)) hfr hlo m meth c P g ig mk _ X hg hsize hdg hW hn ⟨r1, r2, rfl, hB, F1, F2, hA, hS, hz, l0, l2, hp⟩
  have al' : Z.vm.Alike B.U.vm := hZ.alike.trans X'.warmed.alike
  have hsz : E'.slots.size = D.slots.size := by
    obtain ⟨-, -, -, kB, w1, w2, w3⟩ := q1
    obtain ⟨kB', y1, y2⟩ := al'.2.2 _ _ e3
    rw [q2.2.1] at w1
    cases w1.symm.trans y1
    rw [w3, e5 i3, y2]
  refine ⟨v, B, X', ⟨_, ⟨hv, ?_, ⟨by omega, fun y cy hy hn' => q10 y cy (by simpa using hn') hy, fun y cy hy => ?_⟩, q11, ⟨E', _, q1.1, by rw [q2.2.1]; exact e2, by rw [q2.2.1]; exact e3, by rw [q2.1]; exact obV, fun _ => by rw [hsz]; exact e5 i3⟩,
    ⟨E', cfV, kV, iV, fV, q1.1, gV, stV, by rw [q2.1]; exact knV, by rw [q2.1]; exact obV, by rw [q2.2.1]; exact asV, q3⟩, ⟨E', cfC, kC, iC, fC, q1.1, gC, stC, by rw [q2.1]; exact knV, by rw [q2.1]; exact obV, by rw [q2.2.1]; exact asC, q4⟩,
    ⟨V', ⟨q5.1, State.isArrayOf_alike al'.symm q5.2.1, q5.2.2.1⟩, q6, by rw [← al'.findClass]; exact q7, q8, fun j hj => by have := q9 j hj; rwa [Nat.zero_add] at this⟩, fun O n d w F n1 n2 => ?_⟩, hl, hc, hs⟩, st⟩
  · intro y hy
    simp only [List.mem_cons, List.not_mem_nil, or_false] at hy
    rcases hy with rfl | rfl <;> rfl
  · by_cases q : y = x
    · subst q
      cases hD.symm.trans hy
      exact ⟨E', q1.1, q2.2.1, q2.1, hsz⟩
    · exact ⟨cy, q10 y cy q hy, rfl, rfl, rfl⟩
  · obtain ⟨D3, cf, k, i, f, g1, g2, g3, g4, g5, g6, g7⟩ := F
    cases hD.symm.trans g1
    simp only [RoadKit.slotOf, g2, gV, gC, Option.map_some, Option.getD_some] at n1 n2
    exact ⟨E', cf, k, i, f, q1.1, g2, g3, by rw [q2.1]; exact g4, by rw [q2.1]; exact g5, by rw [q2.2.1]; exact g6, by rw [q2.2.2 f.slot (by simp [n1, n2])]; exact g7⟩
end StrChars.Road
namespace StrChars.Road
open Jvm Sem ClassFile Op Lib Jvm.Stand Jvm.Free Jvm.Free.XT
/-- WHAT COMES BACK, the byte[] as a list of values -/
def QA (Z : State) (x : Addr) (zn : Int32) (cs : List Int32) (h : Heap) (v : Option Value) (h' : Heap) (L : List Loc) : Prop := v = none ∧ (∀ y ∈ L, y.base = x) ∧ RoadKit.Keep h h' [x] ∧ h'.size = h.size + 1 ∧ RoadKit.Exa Z h' x ST ∧ RoadKit.Fld Z h' x ST "value" "[B" (.ref h.size) ∧ RoadKit.Fld Z h' x ST "coder" "B" (.int 0) ∧
  (∃ kb, Z.vm.findClass "[B" = some kb ∧ RoadKit.Arv Z h' h.size kb .byte zn (cs.map fun c => .int (lo8 c)) (.int 0)) ∧
  ∀ (O n d : String) (w : Value), RoadKit.Fld Z h x O n d w → RoadKit.slotOf Z O n d ≠ RoadKit.slotOf Z ST "value" "[B" → RoadKit.slotOf Z O n d ≠ RoadKit.slotOf Z ST "coder" "B" → RoadKit.Fld Z h' x O n d w
/-- **new String(chars) AT A CALL, THE ARRAYS AS LISTS**: the char[] at b holds cs, not empty, no char above 255 -/
theorem backArv {p : Program} {l : Launch} {e : Env} {R : Room} {s : State} {args : Array Value} {below : List Frame} {len W : Nat} {Z : State} {a0 : Array Value} {h : Heap} (hZ : Z.Warmed39 s.vm) (hw : ∀ d ∈ words, d.before a0 Z = true) {kI : Nat} (wi : (Jvm.Cond.instantiable ST kI).before a0 Z = true)
    {x b : Addr} {k : ClassId} {zn z : Int32} {cs : List Int32} {dv v0 c0 : Value} (E : RoadKit.Exa Z h x ST) (V : RoadKit.Fld Z h x ST "value" "[B" v0) (C : RoadKit.Fld Z h x ST "coder" "B" c0) (K : RoadKit.Arv Z h b k .char zn (cs.map Value.int) dv) (S : RoadKit.Sta Z h ST "COMPACT_STRINGS" "Z" (.int z)) (hz : ¬ z = 0)
    (hlen : zn.toNatClampNeg = cs.length) (h0 : 0 < cs.length) (hbig : cs.length ≤ 536870912) (hall : ∀ c ∈ cs, ¬ 255 < c) (hfr : 4 ≤ R.frames) (hlo : W + 65 ≤ R.locals) :
    Back l R p e below s args New1.yN len W (fun P a => a = #[.ref x, .ref b] ∧ P.U.heap = h ∧ P.cells + 1 ≤ R.cells ∧ P.slots + cs.length ≤ R.slots)
      (fun P _ v B => ∃ L, QA Z x zn cs h v B.U.heap L ∧ B.locs = P.locs ++ L ∧ B.cells = P.cells + 1 ∧ B.slots = P.slots + cs.length) := by
  obtain ⟨A, K1, K2, K3, K4, K5, K6⟩ := K
  have e : A.slots.size = cs.length := K3.trans hlen
  have hat : ∀ (i : Nat) (hi : i < cs.length), A.slots[i]? = some (.int cs[i]) := fun i hi => by rw [K5 i (by omega)]; simp [List.getD_eq_getElem?_getD, hi]
  have hcv : ∀ (i : Nat) (hi : i < cs.length), cv A i = cs[i] := fun i hi => by unfold cv; rw [hat i hi]
  have hty : Typed .char A := fun i v hv => by
    have hi : i < A.slots.size := (Array.getElem?_eq_some_iff.mp hv).1
    have q := K5 i hi
    rw [hv] at q
    rw [Option.some.inj q]
    exact K6 i hi
  refine Back.mono (back hZ hw wi E V C K1 hty S hz (by omega) (by omega) (fun i hi => by rw [hcv i (by omega)]; exact hall _ (List.getElem_mem _)) hfr hlo) (fun P a hp => ⟨hp.1, hp.2.1, hp.2.2.1, by rw [e]; exact hp.2.2.2⟩) (fun P a v B hp hq => ?_)
  obtain ⟨L, ⟨q1, q2, q3, q4, q5, q6, q7, ⟨V', v1, v2, v3, v4, v5⟩, q9⟩, hl, hc, hs⟩ := hq
  refine ⟨L, ⟨q1, q2, q3, q4, q5, q6, q7, ⟨V'.cls, v3, V', v1, rfl, by rw [v4, e, hlen], K4, fun i hi => ?_, fun i hi => ?_⟩, q9⟩, hl, hc, by rw [hs, e]⟩
  · have hi' : i < cs.length := by omega
    rw [v5 i (by omega), hcv i hi']; simp [List.getD_eq_getElem?_getD, hi']
  · have hi' : i < cs.length := by omega
    simp only [List.getD_eq_getElem?_getD, List.getElem?_map, List.getElem?_eq_getElem hi', Option.map_some, Option.getD_some]
    exact fits_lo8 _
end StrChars.Road
namespace StrChars.Road
open Jvm Sem ClassFile Op Lib Jvm.Stand Jvm.Free Jvm.Free.XT
/-- WHAT COMES BACK, in the writer's own shape -/
def QV (Z : State) (x : Addr) (N : Int32) (bs : List Int32) (h : Heap) (n0 : Nat) (v : Option Value) (h' : Heap) (L : List Loc) : Prop := v = none ∧ RoadKit.Fr n0 L ∧ RoadKit.Keep h h' [x] ∧ RoadKit.Exa Z h' x ST ∧ RoadKit.Fld Z h' x ST "coder" "B" (.int 0) ∧
  ∃ (t : Addr) (kb : ClassId), n0 ≤ t ∧ h.size ≤ t ∧ ¬ t = x ∧ RoadKit.Fld Z h' x ST "value" "[B" (.ref t) ∧ RoadKit.Arv Z h' t kb .byte N (bs.map Value.int) (.int 0)
/-- **new String(chars) AT A CALL, FOR THE WRITER**: a char[] of n known ints, each 0 to 255 -/
theorem backV {p : Program} {l : Launch} {e : Env} {R : Room} {s : State} {args : Array Value} {below : List Frame} {len W : Nat} {Z : State} {a0 : Array Value} {h : Heap} (hZ : Z.Warmed39 s.vm) (hw : ∀ d ∈ words, d.before a0 Z = true) {kI : Nat} (wi : (Jvm.Cond.instantiable ST kI).before a0 Z = true)
    {x b : Addr} {kC : ClassId} {cs bs : List Int32} {d v0 c0 : Value} {z N : Int32} {n n0 : Nat} (hx0 : n0 ≤ x) (hh0 : n0 ≤ h.size) (E : RoadKit.Exa Z h x ST) (V : RoadKit.Fld Z h x ST "value" "[B" v0) (C : RoadKit.Fld Z h x ST "coder" "B" c0) (K : RoadKit.Arv Z h b kC .char N (cs.map Value.int) d) (S : RoadKit.Sta Z h ST "COMPACT_STRINGS" "Z" (.int z)) (hz : ¬ z = 0)
    (hn : cs.length = n) (hN : N = Int32.ofNat n) (l0 : 0 < n) (l2 : n ≤ 4000) (hp : ∀ c ∈ cs, ¬ c < 0 ∧ ¬ (255 : Int32) < c) (hb : bs = cs.map (fun c => c.toInt8.toInt32)) (hfr : 4 ≤ R.frames) (hlo : W + 65 ≤ R.locals) :
    Back l R p e below s args (⟨"java/lang/String", "<init>", "([C)V"⟩ : MethodName) len W (fun P a => a = #[.ref x, .ref b] ∧ P.U.heap = h ∧ P.cells + 1 ≤ R.cells ∧ P.slots + n ≤ R.slots)
      (fun P _ v B => ∃ L, QV Z x N bs h n0 v B.U.heap L ∧ B.locs = P.locs ++ L ∧ B.cells = P.cells + 1 ∧ B.slots = P.slots + n) := by
  subst hn hN hb
  refine Back.mono (backArv hZ hw wi E V C K S hz (n32 (by omega)) l0 (by omega) (fun c hc => (hp c hc).2) hfr hlo) (fun P a hp => hp) (fun P a v B hp hq => ?_)
  obtain ⟨L, ⟨q1, q2, q3, q4, q5, q6, q7, ⟨kb, v1, v2⟩, q9⟩, hl, hc, hs⟩ := hq
  exact ⟨L, ⟨q1, fun y hy => by rw [q2 y hy]; exact hx0, q3, q5, q7, h.size, kb, hh0, Nat.le_refl _, Nat.ne_of_gt E.lt, q6, by rw [List.map_map]; exact v2⟩, hl, hc, hs⟩
end StrChars.Road
end Jvm.Pilot.@@N@@
namespace Jvm.Pilot.@@N@@
open Jvm Jvm.ClassFile Sem Op Lib Jvm.Free Jvm.Stand Jvm.LawKit Jvm.RoadKit Bundle Jvm.Pilot.@@N@@.Jvm.D
def QV (r : Option Value) (h0 : Heap) (n0 : Nat) (v : Option Value) (h : Heap) (L : List Loc) : Prop := v = r ∧ Fr n0 L ∧ h = h0
def QN (r : Option Value) (n0 : Nat) (v : Option Value) (h : Heap) (L : List Loc) : Prop := v = r ∧ Fr n0 L
section OwnWords
variable {args : Array Value} {first s : State} {o : Option Outcome} {idx : List Nat} {t : Term}
theorem own_eqI {k : Int32} (h : (Jvm.Cond.eq t (.int k)).value args first o s idx = some true) : t.eval args first o idx s = some (.int k) := by
  simp only [Jvm.Cond.value, Term.eval] at h; cases ht : t.eval args first o idx s with | none => simp [ht] at h | some x => cases x <;> simp [ht] at h ⊢; exact h
end OwnWords
theorem own_exa_plain {Z : State} {h : Heap} {a : Addr} {C : String} (F : Exa Z h a C) (c : Cell) (hc : h[a]? = some c) : c.vm.isStatics = false := by
  obtain ⟨cell, k, h1, h2, h3, h4, h5⟩ := F; cases h1.symm.trans hc; exact h4
theorem own_arv_plain {Z : State} {h : Heap} {a : Addr} {k : ClassId} {ty : FieldType} {n : Int32} {vs : List Value} {d : Value} (F : Arv Z h a k ty n vs d) (c : Cell) (hc : h[a]? = some c) : c.vm.isStatics = false := by
  obtain ⟨cell, A, -⟩ := F; cases A.1.symm.trans hc; exact A.plain
theorem own_ext_of_keep {h h' : Heap} {ws : List Addr} (K : Keep h h' ws) (q : ∀ x ∈ ws, h.size ≤ x) : Ext h h' := ⟨K.1, fun a c hc => K.2.1 a c hc fun hm => absurd (Array.getElem?_eq_some_iff.mp hc).1 (Nat.not_lt.mpr (q a hm))⟩
theorem own_fitc {Z : State} {h : Heap} {a : Addr} {c : Cell} {ty : FieldType} {vs : List Value} {d : Value} (A : Arr Z h a c ty) (H : Has c vs d) (G : ∀ i, i < c.slots.size → fits ty (vs.getD i d) = true) : FitC Z c := fun i v hv => by
  obtain ⟨hi, -⟩ := Array.getElem?_eq_some_iff.mp hv
  obtain ⟨hs, k, hk, comp, hkind⟩ := A.2.1
  have e : Z.slotType? c.cls .none i = some ty := by simp [State.slotType?, hk, hkind]
  have ev : v = vs.getD i d := Option.some.inj (hv.symm.trans (H i hi))
  simp only [State.fitsSlot, e]
  rw [ev]; exact G i hi
theorem own_sta_keep {Z : State} {h h' : Heap} {C n d : String} {w : Value} {ws : List Addr} (F : Sta Z h C n d w) (K : Keep h h' ws) (q : ∀ x ∈ ws, ∀ c : Cell, h[x]? = some c → c.vm.isStatics = false) : Sta Z h' C n d w := by
  obtain ⟨cf, i, k, f, st, cell, h1, h2, h3, h4, h5, h6, h7⟩ := F
  exact ⟨cf, i, k, f, st, cell, h1, h2, h3, h4, K.2.1 _ _ h5 (fun hx => by rw [q _ hx _ h5] at h6; cases h6), h6, h7⟩
section OwnWords2
variable {args : Array Value} {s : State} {t u : Term}
theorem own_eqR {a : Addr} (h : (Jvm.Cond.eq t u).value args s none s [] = some true) (hu : u.eval args s none [] s = some (.ref a)) : t.eval args s none [] s = some (.ref a) := by
  simp only [Jvm.Cond.value, hu] at h; cases ht : t.eval args s none [] s with | none => simp [ht] at h | some x => cases x <;> simp [ht] at h ⊢; exact h
theorem own_len {a : Addr} {cl : Cell} {ty : FieldType} {k : Int32} (ev : t.eval args s none [] s = some (.ref a)) (A : Arr s s.heap a cl ty) (h : (Term.length t).eval args s none [] s = some (.int k)) : cl.slots.size < 2 ^ 31 ∧ cl.slots.size.toInt32 = k := by
  have ha := A.fin (Vm.Alike.refl _)
  by_cases hl : cl.slots.size < 2 ^ 31
  · rw [len_f ev ha hl] at h; exact ⟨hl, Value.int.inj (Option.some.inj h)⟩
  · simp [Term.eval, ev, ha, hl] at h
theorem own_elem {a : Addr} {cl : Cell} {ty : FieldType} {k : Int32} {v : Value} (ev : t.eval args s none [] s = some (.ref a)) (A : Arr s s.heap a cl ty) (h : (Term.elem t (.int k)).eval args s none [] s = some v) : cl.slots[k.toNatClampNeg]? = some v := (elem_in h ev (Term.int_eval k) A.1).2
end OwnWords2
theorem own_d_jdk_31_method_11_code_0 : decode jdk_31_method_11_code 0 = .ok (.aload_n 0, 1) := by decide +kernel
theorem own_d_jdk_31_method_11_code_1 : decode jdk_31_method_11_code 1 = .ok (.ifnonnull 12, 3) := by decide +kernel
theorem own_d_jdk_31_method_11_code_13 : decode jdk_31_method_11_code 13 = .ok (.aload_n 0, 1) := by decide +kernel
theorem own_d_jdk_31_method_11_code_14 : decode jdk_31_method_11_code 14 = .ok (.areturn, 1) := by decide +kernel
theorem own_pn_java_util_Objects : plainName "java/util/Objects" = true := by first | (simp [plainName, overriddenIn]; done) | decide +kernel
theorem own_d_jdk_43_method_3_code_0 : decode jdk_43_method_3_code 0 = .ok (.iload_n 0, 1) := by decide +kernel
theorem own_d_jdk_43_method_3_code_1 : decode jdk_43_method_3_code 1 = .ok (.sipush 255, 3) := by decide +kernel
theorem own_d_jdk_43_method_3_code_4 : decode jdk_43_method_3_code 4 = .ok (.if_icmp .gt 7, 3) := by decide +kernel
theorem own_d_jdk_43_method_3_code_7 : decode jdk_43_method_3_code 7 = .ok (.iconst 1, 1) := by decide +kernel
theorem own_d_jdk_43_method_3_code_8 : decode jdk_43_method_3_code 8 = .ok (.goto 4, 3) := by decide +kernel
theorem own_d_jdk_43_method_3_code_12 : decode jdk_43_method_3_code 12 = .ok (.ireturn, 1) := by decide +kernel
theorem own_pn_java_lang_StringLatin1 : plainName "java/lang/StringLatin1" = true := by first | (simp [plainName, overriddenIn]; done) | decide +kernel
theorem own_d_jdk_43_method_46_code_0 : decode jdk_43_method_46_code 0 = .ok (.iconst 1, 1) := by decide +kernel
theorem own_d_jdk_43_method_46_code_1 : decode jdk_43_method_46_code 1 = .ok (.newarray .byte, 2) := by decide +kernel
theorem own_d_jdk_43_method_46_code_3 : decode jdk_43_method_46_code 3 = .ok (.dup, 1) := by decide +kernel
theorem own_d_jdk_43_method_46_code_4 : decode jdk_43_method_46_code 4 = .ok (.iconst 0, 1) := by decide +kernel
theorem own_d_jdk_43_method_46_code_5 : decode jdk_43_method_46_code 5 = .ok (.iload_n 0, 1) := by decide +kernel
theorem own_d_jdk_43_method_46_code_6 : decode jdk_43_method_46_code 6 = .ok (.i2b, 1) := by decide +kernel
theorem own_d_jdk_43_method_46_code_7 : decode jdk_43_method_46_code 7 = .ok (.bastore, 1) := by decide +kernel
theorem own_d_jdk_43_method_46_code_8 : decode jdk_43_method_46_code 8 = .ok (.areturn, 1) := by decide +kernel
theorem own_d_jdk_42_method_151_code_0 : decode jdk_42_method_151_code 0 = .ok (.aload_n 0, 1) := by decide +kernel
theorem own_d_jdk_42_method_151_code_1 : decode jdk_42_method_151_code 1 = .ok (.invokespecial 1, 3) := by decide +kernel
theorem own_d_jdk_42_method_151_code_4 : decode jdk_42_method_151_code 4 = .ok (.aload_n 0, 1) := by decide +kernel
theorem own_d_jdk_42_method_151_code_5 : decode jdk_42_method_151_code 5 = .ok (.aload_n 1, 1) := by decide +kernel
theorem own_d_jdk_42_method_151_code_6 : decode jdk_42_method_151_code 6 = .ok (.putfield 9, 3) := by decide +kernel
theorem own_d_jdk_42_method_151_code_9 : decode jdk_42_method_151_code 9 = .ok (.aload_n 0, 1) := by decide +kernel
theorem own_d_jdk_42_method_151_code_10 : decode jdk_42_method_151_code 10 = .ok (.iload_n 2, 1) := by decide +kernel
theorem own_d_jdk_42_method_151_code_11 : decode jdk_42_method_151_code 11 = .ok (.putfield 15, 3) := by decide +kernel
theorem own_d_jdk_42_method_151_code_14 : decode jdk_42_method_151_code 14 = .ok (.return_, 1) := by decide +kernel
theorem own_pn_java_lang_String : plainName "java/lang/String" = true := by first | (simp [plainName, overriddenIn]; done) | decide +kernel
theorem own_d_jdk_42_method_139_code_0 : decode jdk_42_method_139_code 0 = .ok (.getstatic 38, 3) := by decide +kernel
theorem own_d_jdk_42_method_139_code_3 : decode jdk_42_method_139_code 3 = .ok (.ifCond .eq 23, 3) := by decide +kernel
theorem own_d_jdk_42_method_139_code_6 : decode jdk_42_method_139_code 6 = .ok (.iload_n 0, 1) := by decide +kernel
theorem own_d_jdk_42_method_139_code_7 : decode jdk_42_method_139_code 7 = .ok (.invokestatic 1015, 3) := by decide +kernel
theorem own_pd__C_Z : parseMethodDescriptor "(C)Z" = some ⟨[.char], some .boolean⟩ := by decide +kernel
theorem own_d_jdk_42_method_139_code_10 : decode jdk_42_method_139_code 10 = .ok (.ifCond .eq 16, 3) := by decide +kernel
theorem own_d_jdk_42_method_139_code_13 : decode jdk_42_method_139_code 13 = .ok (.new 10, 3) := by decide +kernel
theorem own_d_jdk_42_method_139_code_16 : decode jdk_42_method_139_code 16 = .ok (.dup, 1) := by decide +kernel
theorem own_d_jdk_42_method_139_code_17 : decode jdk_42_method_139_code 17 = .ok (.iload_n 0, 1) := by decide +kernel
theorem own_d_jdk_42_method_139_code_18 : decode jdk_42_method_139_code 18 = .ok (.invokestatic 1018, 3) := by decide +kernel
theorem own_pd__C__B : parseMethodDescriptor "(C)[B" = some ⟨[.char], some (.array .byte)⟩ := by decide +kernel
theorem own_d_jdk_42_method_139_code_21 : decode jdk_42_method_139_code 21 = .ok (.iconst 0, 1) := by decide +kernel
theorem own_d_jdk_42_method_139_code_22 : decode jdk_42_method_139_code 22 = .ok (.invokespecial 209, 3) := by decide +kernel
theorem own_pd___BB_V : parseMethodDescriptor "([BB)V" = some ⟨[(.array .byte), .byte], none⟩ := by decide +kernel
theorem own_d_jdk_42_method_139_code_25 : decode jdk_42_method_139_code 25 = .ok (.areturn, 1) := by decide +kernel
theorem own_d_prog_7_method_2_code_0 : decode prog_7_method_2_code 0 = .ok (.aload_n 0, 1) := by decide +kernel
theorem own_d_prog_7_method_2_code_1 : decode prog_7_method_2_code 1 = .ok (.invokespecial 7, 3) := by decide +kernel
theorem own_d_prog_7_method_2_code_4 : decode prog_7_method_2_code 4 = .ok (.aload_n 0, 1) := by decide +kernel
theorem own_d_prog_7_method_2_code_5 : decode prog_7_method_2_code 5 = .ok (.aload_n 1, 1) := by decide +kernel
theorem own_d_prog_7_method_2_code_6 : decode prog_7_method_2_code 6 = .ok (.ldc 12, 2) := by decide +kernel
theorem own_d_prog_7_method_2_code_8 : decode prog_7_method_2_code 8 = .ok (.invokestatic 14, 3) := by decide +kernel
theorem own_pd__Ljava_lang_Object_Ljava_lang_String__Ljava_lang_Object_ : parseMethodDescriptor "(Ljava/lang/Object;Ljava/lang/String;)Ljava/lang/Object;" = some ⟨[(.object "java/lang/Object"), (.object "java/lang/String")], some (.object "java/lang/Object")⟩ := by decide +kernel
theorem own_d_prog_7_method_2_code_11 : decode prog_7_method_2_code 11 = .ok (.checkcast 20, 3) := by decide +kernel
theorem own_d_prog_7_method_2_code_14 : decode prog_7_method_2_code 14 = .ok (.putfield 22, 3) := by decide +kernel
theorem own_d_prog_7_method_2_code_17 : decode prog_7_method_2_code 17 = .ok (.aload_n 0, 1) := by decide +kernel
theorem own_d_prog_7_method_2_code_18 : decode prog_7_method_2_code 18 = .ok (.aload_n 2, 1) := by decide +kernel
theorem own_d_prog_7_method_2_code_19 : decode prog_7_method_2_code 19 = .ok (.ldc 25, 2) := by decide +kernel
theorem own_d_prog_7_method_2_code_21 : decode prog_7_method_2_code 21 = .ok (.invokestatic 14, 3) := by decide +kernel
theorem own_d_prog_7_method_2_code_24 : decode prog_7_method_2_code 24 = .ok (.checkcast 20, 3) := by decide +kernel
theorem own_d_prog_7_method_2_code_27 : decode prog_7_method_2_code 27 = .ok (.putfield 27, 3) := by decide +kernel
theorem own_d_prog_7_method_2_code_30 : decode prog_7_method_2_code 30 = .ok (.aload_n 0, 1) := by decide +kernel
theorem own_d_prog_7_method_2_code_31 : decode prog_7_method_2_code 31 = .ok (.iload_n 3, 1) := by decide +kernel
theorem own_d_prog_7_method_2_code_32 : decode prog_7_method_2_code 32 = .ok (.putfield 29, 3) := by decide +kernel
theorem own_d_prog_7_method_2_code_35 : decode prog_7_method_2_code 35 = .ok (.aload_n 0, 1) := by decide +kernel
theorem own_d_prog_7_method_2_code_36 : decode prog_7_method_2_code 36 = .ok (.iload 4, 2) := by decide +kernel
theorem own_d_prog_7_method_2_code_38 : decode prog_7_method_2_code 38 = .ok (.putfield 33, 3) := by decide +kernel
theorem own_d_prog_7_method_2_code_41 : decode prog_7_method_2_code 41 = .ok (.return_, 1) := by decide +kernel
theorem own_pn_com_example_nokkel_nokkel_core_ClientRecord : plainName "com/example/nokkel/nokkel/core/ClientRecord" = true := by first | (simp [plainName, overriddenIn]; done) | decide +kernel
theorem own_d_prog_7_method_7_code_0 : decode prog_7_method_7_code 0 = .ok (.aload_n 0, 1) := by decide +kernel
theorem own_d_prog_7_method_7_code_1 : decode prog_7_method_7_code 1 = .ok (.getfield 29, 3) := by decide +kernel
theorem own_d_prog_7_method_7_code_4 : decode prog_7_method_7_code 4 = .ok (.ifCond .ne 10, 3) := by decide +kernel
theorem own_d_prog_7_method_7_code_7 : decode prog_7_method_7_code 7 = .ok (.aload_n 0, 1) := by decide +kernel
theorem own_d_prog_7_method_7_code_8 : decode prog_7_method_7_code 8 = .ok (.getfield 33, 3) := by decide +kernel
theorem own_d_prog_7_method_7_code_11 : decode prog_7_method_7_code 11 = .ok (.ifCond .eq 7, 3) := by decide +kernel
theorem own_d_prog_7_method_7_code_18 : decode prog_7_method_7_code 18 = .ok (.iconst 0, 1) := by decide +kernel
theorem own_d_prog_7_method_7_code_19 : decode prog_7_method_7_code 19 = .ok (.ireturn, 1) := by decide +kernel
theorem own_d_prog_7_method_8_code_0 : decode prog_7_method_8_code 0 = .ok (.new 2, 3) := by decide +kernel
theorem own_d_prog_7_method_8_code_3 : decode prog_7_method_8_code 3 = .ok (.dup, 1) := by decide +kernel
theorem own_d_prog_7_method_8_code_4 : decode prog_7_method_8_code 4 = .ok (.aload_n 0, 1) := by decide +kernel
theorem own_d_prog_7_method_8_code_5 : decode prog_7_method_8_code 5 = .ok (.getfield 22, 3) := by decide +kernel
theorem own_d_prog_7_method_8_code_8 : decode prog_7_method_8_code 8 = .ok (.aload_n 0, 1) := by decide +kernel
theorem own_d_prog_7_method_8_code_9 : decode prog_7_method_8_code 9 = .ok (.getfield 27, 3) := by decide +kernel
theorem own_d_prog_7_method_8_code_12 : decode prog_7_method_8_code 12 = .ok (.iload_n 1, 1) := by decide +kernel
theorem own_d_prog_7_method_8_code_13 : decode prog_7_method_8_code 13 = .ok (.aload_n 0, 1) := by decide +kernel
theorem own_d_prog_7_method_8_code_14 : decode prog_7_method_8_code 14 = .ok (.getfield 33, 3) := by decide +kernel
theorem own_d_prog_7_method_8_code_17 : decode prog_7_method_8_code 17 = .ok (.invokespecial 1, 3) := by decide +kernel
theorem own_pd__Ljava_lang_String_Ljava_lang_String_ZZ_V : parseMethodDescriptor "(Ljava/lang/String;Ljava/lang/String;ZZ)V" = some ⟨[(.object "java/lang/String"), (.object "java/lang/String"), .boolean, .boolean], none⟩ := by decide +kernel
theorem own_d_prog_7_method_8_code_20 : decode prog_7_method_8_code 20 = .ok (.areturn, 1) := by decide +kernel
theorem own_d_prog_7_method_9_code_0 : decode prog_7_method_9_code 0 = .ok (.new 2, 3) := by decide +kernel
theorem own_d_prog_7_method_9_code_3 : decode prog_7_method_9_code 3 = .ok (.dup, 1) := by decide +kernel
theorem own_d_prog_7_method_9_code_4 : decode prog_7_method_9_code 4 = .ok (.aload_n 0, 1) := by decide +kernel
theorem own_d_prog_7_method_9_code_5 : decode prog_7_method_9_code 5 = .ok (.getfield 22, 3) := by decide +kernel
theorem own_d_prog_7_method_9_code_8 : decode prog_7_method_9_code 8 = .ok (.aload_n 0, 1) := by decide +kernel
theorem own_d_prog_7_method_9_code_9 : decode prog_7_method_9_code 9 = .ok (.getfield 27, 3) := by decide +kernel
theorem own_d_prog_7_method_9_code_12 : decode prog_7_method_9_code 12 = .ok (.aload_n 0, 1) := by decide +kernel
theorem own_d_prog_7_method_9_code_13 : decode prog_7_method_9_code 13 = .ok (.getfield 29, 3) := by decide +kernel
theorem own_d_prog_7_method_9_code_16 : decode prog_7_method_9_code 16 = .ok (.iload_n 1, 1) := by decide +kernel
theorem own_d_prog_7_method_9_code_17 : decode prog_7_method_9_code 17 = .ok (.invokespecial 1, 3) := by decide +kernel
theorem own_d_prog_7_method_9_code_20 : decode prog_7_method_9_code 20 = .ok (.areturn, 1) := by decide +kernel
theorem own_d_prog_7_method_7_code_14 : decode prog_7_method_7_code 14 = .ok (.iconst 1, 1) := by decide +kernel
theorem own_d_prog_7_method_7_code_15 : decode prog_7_method_7_code 15 = .ok (.goto 4, 3) := by decide +kernel
theorem own_pd___C_V : parseMethodDescriptor "([C)V" = some ⟨[(.array .char)], none⟩ := by decide +kernel
theorem own_pd__C_Ljava_lang_String_ : parseMethodDescriptor "(C)Ljava/lang/String;" = some ⟨[.char], some (.object "java/lang/String")⟩ := by decide +kernel
theorem own_pd___Z : parseMethodDescriptor "()Z" = some ⟨[], some .boolean⟩ := by decide +kernel
theorem own_pd__Z_Lcom_example_nokkel_nokkel_core_ClientRecord_ : parseMethodDescriptor "(Z)Lcom/example/nokkel/nokkel/core/ClientRecord;" = some ⟨[.boolean], some (.object "com/example/nokkel/nokkel/core/ClientRecord")⟩ := by decide +kernel
theorem own_pn_com_example_nokkel_nokkel_core_ClientRecordIsMarkedPinLaw : plainName "com/example/nokkel/nokkel/core/ClientRecordIsMarkedPinLaw" = true := by first | (simp [plainName, overriddenIn]; done) | decide +kernel
theorem own_wS {Z : State} {a0 : Array Value} (hw : ∀ d ∈ tables_1, d.before a0 Z = true) : ∀ a ∈ Bundle.stringAtoms, a.before a0 Z = true := fun d hd => by
  simp only [Bundle.stringAtoms, List.mem_cons, List.not_mem_nil, or_false] at hd
  rcases hd with rfl | rfl | rfl | rfl | rfl | rfl | rfl
  · exact (hw _ (List.mem_of_getElem? (i := 3) rfl))
  · exact (hw _ (List.mem_of_getElem? (i := 2) rfl))
  · exact (hw _ (List.mem_of_getElem? (i := 19) rfl))
  · exact (hw _ (List.mem_of_getElem? (i := 29) rfl))
  · exact (hw _ (List.mem_of_getElem? (i := 27) rfl))
  · exact (hw _ (List.mem_of_getElem? (i := 52) rfl))
  · exact (hw _ (List.mem_of_getElem? (i := 53) rfl))
theorem own_words {Z : State} {a0 : Array Value} (hw : ∀ d ∈ tables_1, d.before a0 Z = true) : ∀ d ∈ StrChars.Road.words, d.before a0 Z = true := fun d hd => hw d ((by decide +kernel : ∀ d ∈ StrChars.Road.words, d ∈ tables_1) d hd)
theorem own_chr (x : Int32) : ¬ (nar .char ((x &&& (255 : Int32)).toUInt32.toUInt16.toUInt32.toInt32)) < 0 ∧ ¬ (255 : Int32) < (nar .char ((x &&& (255 : Int32)).toUInt32.toUInt16.toUInt32.toInt32)) := by
  have e : (nar .char ((x &&& (255 : Int32)).toUInt32.toUInt16.toUInt32.toInt32)) = x &&& 255 := by
    show (((x &&& (255 : Int32)).toUInt32.toUInt16.toUInt32.toInt32).toUInt32.toUInt16.toUInt32.toInt32) = _
    rw [i2c_mask, i2c_mask]
  rw [e]
  have := c_mask x (255 : Int32) 8 (by decide) (by decide)
  constructor <;> rw [Int32.lt_iff_toInt_lt] <;> simp <;> omega
theorem own_chr2 (x : Int32) : ¬ (255 : Int32) < ((x &&& (255 : Int32)).toUInt32.toUInt16.toUInt32.toInt32) := by
  rw [i2c_mask]
  have := c_mask x (255 : Int32) 8 (by decide) (by decide)
  rw [Int32.lt_iff_toInt_lt]; simp; omega
def QNew (h0 : Heap) (n0 : Nat) (v : Option Value) (h : Heap) (L : List Loc) : Prop := ∃ r, v = some (.ref r) ∧ h0.size ≤ r ∧ Fr n0 L ∧ Keep h0 h []
def QSt (Z : State) (b : Addr) (h0 : Heap) (n0 : Nat) (v : Option Value) (h : Heap) (L : List Loc) : Prop := v = none ∧ Fr n0 L ∧ Keep h0 h [b] ∧ Exa Z h b "java/lang/String"
def QVo (Z : State) (h0 : Heap) (n0 : Nat) (v : Option Value) (h : Heap) (L : List Loc) : Prop := ∃ r, v = some (.ref r) ∧ h0.size ≤ r ∧ Fr n0 L ∧ Keep h0 h [] ∧ Exa Z h r "java/lang/String"
def QCi (Z : State) (b o v : Addr) (x y : Int32) (h0 : Heap) (n0 : Nat) (w : Option Value) (h : Heap) (L : List Loc) : Prop := w = none ∧ Fr n0 L ∧ Keep h0 h [b] ∧ Exa Z h b "com/example/nokkel/nokkel/core/ClientRecord" ∧ Fld Z h b "com/example/nokkel/nokkel/core/ClientRecord" "owner" "Ljava/lang/String;" (.ref o) ∧ Fld Z h b "com/example/nokkel/nokkel/core/ClientRecord" "verifier" "Ljava/lang/String;" (.ref v) ∧ Fld Z h b "com/example/nokkel/nokkel/core/ClientRecord" "locksRevoked" "Z" (.int x) ∧ Fld Z h b "com/example/nokkel/nokkel/core/ClientRecord" "graceMissed" "Z" (.int y)
def QCw (Z : State) (o v : Addr) (x y : Int32) (h0 : Heap) (n0 : Nat) (w : Option Value) (h : Heap) (L : List Loc) : Prop := ∃ b, w = some (.ref b) ∧ h0.size ≤ b ∧ Fr n0 L ∧ Keep h0 h [] ∧ Exa Z h b "com/example/nokkel/nokkel/core/ClientRecord" ∧ Fld Z h b "com/example/nokkel/nokkel/core/ClientRecord" "owner" "Ljava/lang/String;" (.ref o) ∧ Fld Z h b "com/example/nokkel/nokkel/core/ClientRecord" "verifier" "Ljava/lang/String;" (.ref v) ∧ Fld Z h b "com/example/nokkel/nokkel/core/ClientRecord" "locksRevoked" "Z" (.int x) ∧ Fld Z h b "com/example/nokkel/nokkel/core/ClientRecord" "graceMissed" "Z" (.int y)
theorem own_ef_own_rnn (m : MethodId) {x0 : Addr} {x1 : Addr} : entryFrame m #[(.ref x0), (.ref x1)] 2 = mkF m 0 #[.val (.ref x0), .val (.ref x1)] [] := by first | (simp [entryFrame, mkF, argsToLocals, Value.category, maxLocals]; done) | rfl
set_option maxRecDepth 65536 in
set_option maxHeartbeats 40000000 in
theorem own_rnn (l : Launch) (Z : State) (a0 : Array Value) (hw : ∀ d ∈ tables_1, d.before a0 Z = true) (ws : List Jvm.Cond) (h0 : Heap) (n0 : Nat) (Z0 : n0 ≤ h0.size) (b cm : Addr) :
    MetFree l (⟨"java/util/Objects", "requireNonNull", "(Ljava/lang/Object;Ljava/lang/String;)Ljava/lang/Object;"⟩ : MethodName) (head1 (Jvm.Cond.code (⟨"java/util/Objects", "requireNonNull", "(Ljava/lang/Object;Ljava/lang/String;)Ljava/lang/Object;"⟩ : MethodName) jdk_31_method_11_code 2 (some (.object "java/lang/Object")) :: ws) ({ frames := 0, cells := 0, slots := 0, locals := 0 } : Room)) (fun a U => a = #[(.ref b), (.ref cm)] ∧ Z.Warmed39 U.vm ∧ U.heap = h0) (fun _ _ _ _ _ => True) (fun _ U o U' => ∃ v L, o = .returned v ∧ QV (some (.ref b)) h0 n0 v U'.heap L ∧ FrameEnd U o U' L ({ frames := 0, cells := 0, slots := 0, locals := 0 } : Room).cells ({ frames := 0, cells := 0, slots := 0, locals := 0 } : Room).slots) := by
  refine MetFree.of_bodySF (plainFor_of_name own_pn_java_util_Objects) hisR ?_
  intro p e s m args below meth c s₁ Bd hml0 hP hK
  obtain ⟨rfl, hZ, hh⟩ := hP
  have hx := Bd.exec
  have hby := Bd.bytes
  have hml : c.maxLocals = 2 := hml0
  have hown : s.vm.findClass "java/util/Objects" = some m.cls := findClass_of_methodNamed Bd.named
  have hnm := (name_of_methodNamed Bd.named Bd.method).1
  have X0 : Stand p l e ({ frames := 0, cells := 0, slots := 0, locals := 0 } : Room) s m #[(.ref b), (.ref cm)] below meth c s₁ [] 0 0 := Stand.of_body Bd
  have e0 : s₁.heap = h0 := by rw [← hh, Bd.state]; rfl
  have N0 := Fr.nil n0
  have pre0 : ∀ t, Steps p.tables e below (s₁.setTop (mkF m 0 #[.val (.ref b), .val (.ref cm)] [])) t → Steps p.tables e below (s₁.setTop (entryFrame m #[(.ref b), (.ref cm)] 2)) t := fun t k => castTop (own_ef_own_rnn m) k
  have ch1 : ∀ t, Steps p.tables e below (s₁.setTop (mkF m 14 #[.val (.ref b), .val (.ref cm)] [(.ref b)])) t → Steps p.tables e below (s₁.setTop (entryFrame m #[(.ref b), (.ref cm)] 2)) t := fun t k => pre0 t (by
      show Steps p.tables e below (s₁.setTop (mkF m 0 #[.val (.ref b), .val (.ref cm)] [])) t
      refine XS.aloadN X0.here hx rfl (hb hby own_d_jdk_31_method_11_code_0) rfl rfl ?_
      show Steps p.tables e below (s₁.setTop (mkF m 1 #[.val (.ref b), .val (.ref cm)] [(.ref b)])) t
      refine XS.ifnonnullYes X0.here hx rfl (pc0 := 1) (pc' := 13) rfl (hb hby own_d_jdk_31_method_11_code_1) rfl (by decide) (by decide) ?_
      show Steps p.tables e below (s₁.setTop (mkF m 13 #[.val (.ref b), .val (.ref cm)] [])) t
      refine XS.aloadN X0.here hx rfl (hb hby own_d_jdk_31_method_11_code_13) rfl rfl ?_
      exact k)
  obtain ⟨fs, hr, hrun, hended, hW, hsame⟩ := X0.leave (v := some (.ref b)) (fun h => by rw [Bd.returns] at h; cases h)
  refine ⟨_, _, ch1 _ ?_, hrun, hended, _, _, rfl, ?_, ⟨_, rfl⟩, hW, hsame.mono (by decide) (by decide)⟩
  · show Steps p.tables e below (s₁.setTop (mkF m 14 #[.val (.ref b), .val (.ref cm)] [(.ref b)])) _
    jvm_step X0.here [X0.here.top, hx, (hb hby own_d_jdk_31_method_11_code_14), X0.method', Bd.returns, Value.isRef, FieldType.isReference]
    first | (intro acts; rw [hr _ acts rfl rfl rfl]) | rw [hr _ _ rfl rfl rfl]
    exact Steps.refl _
  · show QV (some (.ref b)) h0 n0 _ s₁.heap _
    rw [e0]
    exact ⟨rfl, N0, rfl⟩
theorem own_ef_own_can (m : MethodId) {x0 : Int32} : entryFrame m #[(.int x0)] 1 = mkF m 0 #[.val (.int x0)] [] := by first | (simp [entryFrame, mkF, argsToLocals, Value.category, maxLocals]; done) | rfl
set_option maxRecDepth 65536 in
set_option maxHeartbeats 40000000 in
theorem own_can (l : Launch) (Z : State) (a0 : Array Value) (hw : ∀ d ∈ tables_1, d.before a0 Z = true) (ws : List Jvm.Cond) (h0 : Heap) (n0 : Nat) (Z0 : n0 ≤ h0.size) (x : Int32) (hx5 : ¬ (255 : Int32) < x) :
    MetFree l (⟨"java/lang/StringLatin1", "canEncode", "(C)Z"⟩ : MethodName) (head1 (Jvm.Cond.code (⟨"java/lang/StringLatin1", "canEncode", "(C)Z"⟩ : MethodName) jdk_43_method_3_code 1 (some .boolean) :: ws) ({ frames := 0, cells := 0, slots := 0, locals := 0 } : Room)) (fun a U => a = #[(.int x)] ∧ Z.Warmed39 U.vm ∧ U.heap = h0) (fun _ _ _ _ _ => True) (fun _ U o U' => ∃ v L, o = .returned v ∧ QV (some (.int (1 : Int32))) h0 n0 v U'.heap L ∧ FrameEnd U o U' L ({ frames := 0, cells := 0, slots := 0, locals := 0 } : Room).cells ({ frames := 0, cells := 0, slots := 0, locals := 0 } : Room).slots) := by
  refine MetFree.of_bodySF (plainFor_of_name own_pn_java_lang_StringLatin1) hisR ?_
  intro p e s m args below meth c s₁ Bd hml0 hP hK
  obtain ⟨rfl, hZ, hh⟩ := hP
  have hx := Bd.exec
  have hby := Bd.bytes
  have hml : c.maxLocals = 1 := hml0
  have hown : s.vm.findClass "java/lang/StringLatin1" = some m.cls := findClass_of_methodNamed Bd.named
  have hnm := (name_of_methodNamed Bd.named Bd.method).1
  have X0 : Stand p l e ({ frames := 0, cells := 0, slots := 0, locals := 0 } : Room) s m #[(.int x)] below meth c s₁ [] 0 0 := Stand.of_body Bd
  have e0 : s₁.heap = h0 := by rw [← hh, Bd.state]; rfl
  have N0 := Fr.nil n0
  have pre0 : ∀ t, Steps p.tables e below (s₁.setTop (mkF m 0 #[.val (.int x)] [])) t → Steps p.tables e below (s₁.setTop (entryFrame m #[(.int x)] 1)) t := fun t k => castTop (own_ef_own_can m) k
  have ch1 : ∀ t, Steps p.tables e below (s₁.setTop (mkF m 12 #[.val (.int x)] [(.int (1 : Int32))])) t → Steps p.tables e below (s₁.setTop (entryFrame m #[(.int x)] 1)) t := fun t k => pre0 t (by
      show Steps p.tables e below (s₁.setTop (mkF m 0 #[.val (.int x)] [])) t
      refine XS.iloadN X0.here hx rfl (hb hby own_d_jdk_43_method_3_code_0) rfl ?_
      show Steps p.tables e below (s₁.setTop (mkF m 1 #[.val (.int x)] [(.int x)])) t
      refine XS.sipush X0.here hx rfl (hb hby own_d_jdk_43_method_3_code_1) ?_
      show Steps p.tables e below (s₁.setTop (mkF m 4 #[.val (.int x)] [(.int (255 : Int32)), (.int x)])) t
      refine XS.icmpNo X0.here hx rfl (hb hby own_d_jdk_43_method_3_code_4) rfl (flt hx5).2.2.1 ?_
      show Steps p.tables e below (s₁.setTop (mkF m 7 #[.val (.int x)] [])) t
      refine XS.iconst X0.here hx rfl (hb hby own_d_jdk_43_method_3_code_7) ?_
      show Steps p.tables e below (s₁.setTop (mkF m 8 #[.val (.int x)] [(.int (1 : Int32))])) t
      refine XS.goto X0.here hx rfl (pc0 := 8) (pc' := 12) rfl (hb hby own_d_jdk_43_method_3_code_8) (by decide) (by decide) ?_
      exact k)
  obtain ⟨fs, hr, hrun, hended, hW, hsame⟩ := X0.leave (v := some (.int (1 : Int32))) (fun h => by rw [Bd.returns] at h; cases h)
  refine ⟨_, _, ch1 _ ?_, hrun, hended, _, _, rfl, ?_, ⟨_, rfl⟩, hW, hsame.mono (by decide) (by decide)⟩
  · show Steps p.tables e below (s₁.setTop (mkF m 12 #[.val (.int x)] [(.int (1 : Int32))])) _
    exact retN X0 hx (t := .boolean) Bd.returns (by simp) (hb hby own_d_jdk_43_method_3_code_12) hr
  · show QV (some (.int (1 : Int32))) h0 n0 _ s₁.heap _
    rw [e0]
    exact ⟨rfl, N0, rfl⟩
theorem own_ef_own_tob (m : MethodId) {x0 : Int32} : entryFrame m #[(.int x0)] 1 = mkF m 0 #[.val (.int x0)] [] := by first | (simp [entryFrame, mkF, argsToLocals, Value.category, maxLocals]; done) | rfl
set_option maxRecDepth 65536 in
set_option maxHeartbeats 40000000 in
theorem own_tob (l : Launch) (Z : State) (a0 : Array Value) (hw : ∀ d ∈ tables_1, d.before a0 Z = true) (ws : List Jvm.Cond) (h0 : Heap) (n0 : Nat) (Z0 : n0 ≤ h0.size) (x : Int32) :
    MetFree l (⟨"java/lang/StringLatin1", "toBytes", "(C)[B"⟩ : MethodName) (head1 (Jvm.Cond.code (⟨"java/lang/StringLatin1", "toBytes", "(C)[B"⟩ : MethodName) jdk_43_method_46_code 1 (some (.array .byte)) :: ws) ({ frames := 0, cells := 1, slots := 1, locals := 0 } : Room)) (fun a U => a = #[(.int x)] ∧ Z.Warmed39 U.vm ∧ U.heap = h0) (fun _ _ _ _ _ => True) (fun _ U o U' => ∃ v L, o = .returned v ∧ QNew h0 n0 v U'.heap L ∧ FrameEnd U o U' L ({ frames := 0, cells := 1, slots := 1, locals := 0 } : Room).cells ({ frames := 0, cells := 1, slots := 1, locals := 0 } : Room).slots) := by
  refine MetFree.of_bodySF (plainFor_of_name own_pn_java_lang_StringLatin1) hisR ?_
  intro p e s m args below meth c s₁ Bd hml0 hP hK
  obtain ⟨rfl, hZ, hh⟩ := hP
  have hx := Bd.exec
  have hby := Bd.bytes
  have hml : c.maxLocals = 1 := hml0
  have hown : s.vm.findClass "java/lang/StringLatin1" = some m.cls := findClass_of_methodNamed Bd.named
  have hnm := (name_of_methodNamed Bd.named Bd.method).1
  have X0 : Stand p l e ({ frames := 0, cells := 1, slots := 1, locals := 0 } : Room) s m #[(.int x)] below meth c s₁ [] 0 0 := Stand.of_body Bd
  have e0 : s₁.heap = h0 := by rw [← hh, Bd.state]; rfl
  have N0 := Fr.nil n0
  have pre0 : ∀ t, Steps p.tables e below (s₁.setTop (mkF m 0 #[.val (.int x)] [])) t → Steps p.tables e below (s₁.setTop (entryFrame m #[(.int x)] 1)) t := fun t k => castTop (own_ef_own_tob m) k
  obtain ⟨T1, hp1, k1, X1, e1, E1, A1, st1⟩ := newP X0 hx hZ (hw _ (List.mem_of_getElem? (i := 19) rfl)) e0 (g := (mkF m 1 #[.val (.int x)] [(.int (1 : Int32))])) rfl (hb hby own_d_jdk_43_method_46_code_1) rfl (by decide) (cap := 1) (by decide) (by decide) (by decide) (by decide)
  obtain ⟨b1, g1⟩ : ∃ z, z = h0.size := ⟨_, rfl⟩
  rw [← g1] at A1 st1
  have g_b1 : n0 ≤ b1 := Nat.le_trans (Nat.le_trans Z0 (Keep.refl h0 []).1) (Nat.le_of_eq g1.symm)
  have sz_b1 : h0.size ≤ b1 := Nat.le_trans (Keep.refl h0 []).1 (Nat.le_of_eq g1.symm)
  have Kp1 := Keep.ext (Keep.refl h0 []) E1
  have V1 : Arv Z hp1 b1 k1 .byte (1 : Int32) [(.int (0 : Int32))] (.int (0 : Int32)) := (Arv.new A1 (by decide)).pad (pad_rep [] (.int (0 : Int32)) 1)
  have ch2 : ∀ t, Steps p.tables e below (T1.setTop (mkF m 3 #[.val (.int x)] [(.ref b1)])) t → Steps p.tables e below (s₁.setTop (entryFrame m #[(.int x)] 1)) t := fun t k => pre0 t (by
      show Steps p.tables e below (s₁.setTop (mkF m 0 #[.val (.int x)] [])) t
      refine XS.iconst X0.here hx rfl (hb hby own_d_jdk_43_method_46_code_0) ?_
      show Steps p.tables e below (s₁.setTop (mkF m 1 #[.val (.int x)] [(.int (1 : Int32))])) t
      exact st1 t k)
  obtain ⟨cl3, Ar3, qq3, Sz3, Ng3, Ha3, Ga3⟩ := id V1
  have hin3 : ¬ ((0 : Int32) < 0 ∨ cl3.slots.size ≤ ((0 : Int32)).toNatClampNeg) := inb_of Sz3 (by decide)
  obtain ⟨T4, hp4, X4, e4, W4, st4⟩ := stB X1 hx hZ e1 Ar3 (j := (0 : Int32)) hin3 (g := (mkF m 7 #[.val (.int x)] [(.int (x.toInt8.toInt32)), (.int (0 : Int32)), (.ref b1), (.ref b1)])) rfl rfl (hb hby own_d_jdk_43_method_46_code_7)
  have ch5 : ∀ t, Steps p.tables e below (T4.setTop (mkF m 8 #[.val (.int x)] [(.ref b1)])) t → Steps p.tables e below (s₁.setTop (entryFrame m #[(.int x)] 1)) t := fun t k => ch2 t (by
      show Steps p.tables e below (T1.setTop (mkF m 3 #[.val (.int x)] [(.ref b1)])) t
      refine XS.dup X1.here hx rfl (hb hby own_d_jdk_43_method_46_code_3) rfl rfl ?_
      show Steps p.tables e below (T1.setTop (mkF m 4 #[.val (.int x)] [(.ref b1), (.ref b1)])) t
      refine XS.iconst X1.here hx rfl (hb hby own_d_jdk_43_method_46_code_4) ?_
      show Steps p.tables e below (T1.setTop (mkF m 5 #[.val (.int x)] [(.int (0 : Int32)), (.ref b1), (.ref b1)])) t
      refine XS.iloadN X1.here hx rfl (hb hby own_d_jdk_43_method_46_code_5) rfl ?_
      show Steps p.tables e below (T1.setTop (mkF m 6 #[.val (.int x)] [(.int x), (.int (0 : Int32)), (.ref b1), (.ref b1)])) t
      refine XS.i2b X1.here hx rfl (hb hby own_d_jdk_43_method_46_code_6) rfl ?_
      show Steps p.tables e below (T1.setTop (mkF m 7 #[.val (.int x)] [(.int (x.toInt8.toInt32)), (.int (0 : Int32)), (.ref b1), (.ref b1)])) t
      exact st4 t k)
  have V4 : Arv Z hp4 b1 k1 .byte (1 : Int32) [(.int ((x.toInt8.toInt32).toInt8.toInt32))] (.int (0 : Int32)) := Arv.set Ar3 qq3 Sz3 Ng3 Ha3 Ga3 (fits_nar_byte _) W4 0 rfl (Nat.le_of_ble_eq_true rfl)
  have N4 := Fr.snoc X4 N0 g_b1
  have Kp4 := Keep.wr Kp1 W4 (Or.inr sz_b1)
  obtain ⟨fs, hr, hrun, hended, hW, hsame⟩ := X4.leave (v := some (.ref b1)) (fun h => by rw [Bd.returns] at h; cases h)
  refine ⟨_, _, ch5 _ ?_, hrun, hended, _, _, rfl, ?_, ⟨_, rfl⟩, hW, hsame.mono (by decide) (by decide)⟩
  · show Steps p.tables e below (T4.setTop (mkF m 8 #[.val (.int x)] [(.ref b1)])) _
    jvm_step X4.here [X4.here.top, hx, (hb hby own_d_jdk_43_method_46_code_8), X4.method', Bd.returns, Value.isRef, FieldType.isReference]
    first | (intro acts; rw [hr _ acts rfl rfl rfl]) | rw [hr _ _ rfl rfl rfl]
    exact Steps.refl _
  · show QNew h0 n0 _ T4.heap _
    rw [e4]
    exact ⟨_, rfl, sz_b1, N4, Kp4⟩
theorem own_ef_own_sbb (m : MethodId) {x0 : Addr} {x1 : Addr} {x2 : Int32} : entryFrame m #[(.ref x0), (.ref x1), (.int x2)] 3 = mkF m 0 #[.val (.ref x0), .val (.ref x1), .val (.int x2)] [] := by first | (simp [entryFrame, mkF, argsToLocals, Value.category, maxLocals]; done) | rfl
set_option maxRecDepth 65536 in
set_option maxHeartbeats 40000000 in
theorem own_sbb (l : Launch) (Z : State) (a0 : Array Value) (hw : ∀ d ∈ tables_1, d.before a0 Z = true) (ws : List Jvm.Cond) (h0 : Heap) (n0 : Nat) (Z0 : n0 ≤ h0.size) (b r : Addr) (E : Exa Z h0 b "java/lang/String") (F1 : Fld Z h0 b "java/lang/String" "value" "[B" .null) (F2 : Fld Z h0 b "java/lang/String" "coder" "B" (.int (0 : Int32))) (g : n0 ≤ b) :
    MetFree l (⟨"java/lang/String", "<init>", "([BB)V"⟩ : MethodName) (head1 (Jvm.Cond.code (⟨"java/lang/String", "<init>", "([BB)V"⟩ : MethodName) jdk_42_method_151_code 3 none :: ws) ({ frames := 1, cells := 0, slots := 0, locals := 12 } : Room)) (fun a U => a = #[(.ref b), (.ref r), (.int (0 : Int32))] ∧ Z.Warmed39 U.vm ∧ U.heap = h0) (fun _ _ _ _ _ => True) (fun _ U o U' => ∃ v L, o = .returned v ∧ QSt Z b h0 n0 v U'.heap L ∧ FrameEnd U o U' L ({ frames := 1, cells := 0, slots := 0, locals := 12 } : Room).cells ({ frames := 1, cells := 0, slots := 0, locals := 12 } : Room).slots) := by
  refine MetFree.of_bodySF (plainFor_of_name own_pn_java_lang_String) hisR ?_
  intro p e s m args below meth c s₁ Bd hml0 hP hK
  obtain ⟨rfl, hZ, hh⟩ := hP
  have hx := Bd.exec
  have hby := Bd.bytes
  have hml : c.maxLocals = 3 := hml0
  have hown : s.vm.findClass "java/lang/String" = some m.cls := findClass_of_methodNamed Bd.named
  have hnm := (name_of_methodNamed Bd.named Bd.method).1
  have X0 : Stand p l e ({ frames := 1, cells := 0, slots := 0, locals := 12 } : Room) s m #[(.ref b), (.ref r), (.int (0 : Int32))] below meth c s₁ [] 0 0 := Stand.of_body Bd
  have e0 : s₁.heap = h0 := by rw [← hh, Bd.state]; rfl
  have N0 := Fr.nil n0
  have pre0 : ∀ t, Steps p.tables e below (s₁.setTop (mkF m 0 #[.val (.ref b), .val (.ref r), .val (.int (0 : Int32))] [])) t → Steps p.tables e below (s₁.setTop (entryFrame m #[(.ref b), (.ref r), (.int (0 : Int32))] 3)) t := fun t k => castTop (own_ef_own_sbb m) k
  obtain ⟨T1, X1, e1, st1⟩ := initO X0 hx hZ hown (hw _ (List.mem_of_getElem? (i := 11) rfl)) (hw _ (List.mem_of_getElem? (i := 12) rfl)) (hw _ (List.mem_of_getElem? (i := 13) rfl)) e0 (g := (mkF m 1 #[.val (.ref b), .val (.ref r), .val (.int (0 : Int32))] [(.ref b)])) rfl (by rw [hml]; rfl) rfl (hb hby own_d_jdk_42_method_151_code_1) (by decide) (W := 0) (by show 2 * 0 + _ ≤ _; exact Nat.le_of_eq rfl) (by decide)
  have ch2 : ∀ t, Steps p.tables e below (T1.setTop (mkF m 4 #[.val (.ref b), .val (.ref r), .val (.int (0 : Int32))] [])) t → Steps p.tables e below (s₁.setTop (entryFrame m #[(.ref b), (.ref r), (.int (0 : Int32))] 3)) t := fun t k => pre0 t (by
      show Steps p.tables e below (s₁.setTop (mkF m 0 #[.val (.ref b), .val (.ref r), .val (.int (0 : Int32))] [])) t
      refine XS.aloadN X0.here hx rfl (hb hby own_d_jdk_42_method_151_code_0) rfl rfl ?_
      show Steps p.tables e below (s₁.setTop (mkF m 1 #[.val (.ref b), .val (.ref r), .val (.int (0 : Int32))] [(.ref b)])) t
      exact st1 t k)
  obtain ⟨T3, hp3, X3, e3, W3, st3⟩ := putF X1 hx hZ hown (host := "") (Or.inl (hw _ (List.mem_of_getElem? (i := 28) rfl))) Via.refl e1 F1 E (Or.inr ⟨(hw _ (List.mem_of_getElem? (i := 29) rfl)), rfl, hnm⟩) (hw _ (List.mem_of_getElem? (i := 2) rfl)) (ty := (.array .byte)) (by decide) rfl rfl (g := (mkF m 6 #[.val (.ref b), .val (.ref r), .val (.int (0 : Int32))] [(.ref r), (.ref b)])) rfl rfl (hb hby own_d_jdk_42_method_151_code_6)
  have ch4 : ∀ t, Steps p.tables e below (T3.setTop (mkF m 9 #[.val (.ref b), .val (.ref r), .val (.int (0 : Int32))] [])) t → Steps p.tables e below (s₁.setTop (entryFrame m #[(.ref b), (.ref r), (.int (0 : Int32))] 3)) t := fun t k => ch2 t (by
      show Steps p.tables e below (T1.setTop (mkF m 4 #[.val (.ref b), .val (.ref r), .val (.int (0 : Int32))] [])) t
      refine XS.aloadN X1.here hx rfl (hb hby own_d_jdk_42_method_151_code_4) rfl rfl ?_
      show Steps p.tables e below (T1.setTop (mkF m 5 #[.val (.ref b), .val (.ref r), .val (.int (0 : Int32))] [(.ref b)])) t
      refine XS.aloadN X1.here hx rfl (hb hby own_d_jdk_42_method_151_code_5) rfl rfl ?_
      show Steps p.tables e below (T1.setTop (mkF m 6 #[.val (.ref b), .val (.ref r), .val (.int (0 : Int32))] [(.ref r), (.ref b)])) t
      exact st3 t k)
  have Fw3 := Fld.same W3 F1
  have N3 := Fr.snoc X3 N0 g
  have Kp3 := Keep.wr (Keep.refl h0 [b]) W3 (Or.inl (List.mem_of_getElem? (i := 0) rfl))
  have cf5 := (Fld.other W3 F2 (Or.inr (slot_ne (Or.inr (hw _ (List.mem_of_getElem? (i := 27) rfl))) (Or.inr (hw _ (List.mem_of_getElem? (i := 29) rfl))) (by decide) (t := .byte) (t' := (.array .byte)) (by decide) (by decide))))
  have cf6 := (Exa.wr W3 E)
  obtain ⟨T7, hp7, X7, e7, W7, st7⟩ := putFN X3 hx hZ hown (hw _ (List.mem_of_getElem? (i := 26) rfl)) Via.refl e3 cf5 cf6 (Or.inr ⟨(hw _ (List.mem_of_getElem? (i := 27) rfl)), rfl, hnm⟩) (hw _ (List.mem_of_getElem? (i := 2) rfl)) (ty := .byte) (v' := (.int (0 : Int32))) (by decide) (by first | rfl | decide) (by first | rfl | decide) (g := (mkF m 11 #[.val (.ref b), .val (.ref r), .val (.int (0 : Int32))] [(.int (0 : Int32)), (.ref b)])) rfl rfl (hb hby own_d_jdk_42_method_151_code_11)
  have ch8 : ∀ t, Steps p.tables e below (T7.setTop (mkF m 14 #[.val (.ref b), .val (.ref r), .val (.int (0 : Int32))] [])) t → Steps p.tables e below (s₁.setTop (entryFrame m #[(.ref b), (.ref r), (.int (0 : Int32))] 3)) t := fun t k => ch4 t (by
      show Steps p.tables e below (T3.setTop (mkF m 9 #[.val (.ref b), .val (.ref r), .val (.int (0 : Int32))] [])) t
      refine XS.aloadN X3.here hx rfl (hb hby own_d_jdk_42_method_151_code_9) rfl rfl ?_
      show Steps p.tables e below (T3.setTop (mkF m 10 #[.val (.ref b), .val (.ref r), .val (.int (0 : Int32))] [(.ref b)])) t
      refine XS.iloadN X3.here hx rfl (hb hby own_d_jdk_42_method_151_code_10) rfl ?_
      show Steps p.tables e below (T3.setTop (mkF m 11 #[.val (.ref b), .val (.ref r), .val (.int (0 : Int32))] [(.int (0 : Int32)), (.ref b)])) t
      exact st7 t k)
  have Fw7 := Fld.same W7 cf5
  have N7 := Fr.snoc X7 N3 g
  have Kp7 := Keep.wr Kp3 W7 (Or.inl (List.mem_of_getElem? (i := 0) rfl))
  have cf9 := (Exa.wr W7 cf6)
  obtain ⟨fs, hr, hrun, hended, hW, hsame⟩ := X7.leave (v := none) (fun _ => rfl)
  refine ⟨_, _, ch8 _ ?_, hrun, hended, _, _, rfl, ?_, ⟨_, rfl⟩, hW, hsame.mono (by decide) (by decide)⟩
  · show Steps p.tables e below (T7.setTop (mkF m 14 #[.val (.ref b), .val (.ref r), .val (.int (0 : Int32))] [])) _
    exact X7.returnOut hx Bd.returns (hb hby own_d_jdk_42_method_151_code_14) hr
  · show QSt Z b h0 n0 _ T7.heap _
    rw [e7]
    exact ⟨rfl, N7, Kp7, cf9⟩
theorem own_ef_own_vof (m : MethodId) {x0 : Int32} : entryFrame m #[(.int x0)] 1 = mkF m 0 #[.val (.int x0)] [] := by first | (simp [entryFrame, mkF, argsToLocals, Value.category, maxLocals]; done) | rfl
set_option maxRecDepth 65536 in
set_option maxHeartbeats 40000000 in
theorem own_vof (l : Launch) (Z : State) (a0 : Array Value) (hw : ∀ d ∈ tables_1, d.before a0 Z = true) (ws : List Jvm.Cond) (h0 : Heap) (n0 : Nat) (Z0 : n0 ≤ h0.size) (x : Int32) (hx5 : ¬ (255 : Int32) < x) (zC : Int32) (S_CS : Sta Z h0 "java/lang/String" "COMPACT_STRINGS" "Z" (.int zC)) (P5 : ¬ (zC = (0 : Int32))) :
    MetFree l (⟨"java/lang/String", "valueOf", "(C)Ljava/lang/String;"⟩ : MethodName) (head1 (Jvm.Cond.code (⟨"java/lang/String", "valueOf", "(C)Ljava/lang/String;"⟩ : MethodName) jdk_42_method_139_code 1 (some (.object "java/lang/String")) :: ws) ({ frames := 2, cells := 2, slots := 5, locals := 27 } : Room)) (fun a U => a = #[(.int x)] ∧ Z.Warmed39 U.vm ∧ U.heap = h0) (fun _ _ _ _ _ => True) (fun _ U o U' => ∃ v L, o = .returned v ∧ QVo Z h0 n0 v U'.heap L ∧ FrameEnd U o U' L ({ frames := 2, cells := 2, slots := 5, locals := 27 } : Room).cells ({ frames := 2, cells := 2, slots := 5, locals := 27 } : Room).slots) := by
  refine MetFree.of_bodySF (plainFor_of_name own_pn_java_lang_String) hisR ?_
  intro p e s m args below meth c s₁ Bd hml0 hP hK
  obtain ⟨rfl, hZ, hh⟩ := hP
  have hx := Bd.exec
  have hby := Bd.bytes
  have hml : c.maxLocals = 1 := hml0
  have hown : s.vm.findClass "java/lang/String" = some m.cls := findClass_of_methodNamed Bd.named
  have hnm := (name_of_methodNamed Bd.named Bd.method).1
  have X0 : Stand p l e ({ frames := 2, cells := 2, slots := 5, locals := 27 } : Room) s m #[(.int x)] below meth c s₁ [] 0 0 := Stand.of_body Bd
  have e0 : s₁.heap = h0 := by rw [← hh, Bd.state]; rfl
  have N0 := Fr.nil n0
  have pre0 : ∀ t, Steps p.tables e below (s₁.setTop (mkF m 0 #[.val (.int x)] [])) t → Steps p.tables e below (s₁.setTop (entryFrame m #[(.int x)] 1)) t := fun t k => castTop (own_ef_own_vof m) k
  obtain ⟨T1, X1, e1, st1⟩ := getS2 X0 hx hZ hown (host := "") (Or.inl (hw _ (List.mem_of_getElem? (i := 14) rfl))) Via.refl e0 S_CS (g := (mkF m 0 #[.val (.int x)] [])) rfl (hb hby own_d_jdk_42_method_139_code_0)
  have ch2 : ∀ t, Steps p.tables e below (T1.setTop (mkF m 3 #[.val (.int x)] [(.int zC)])) t → Steps p.tables e below (s₁.setTop (entryFrame m #[(.int x)] 1)) t := fun t k => pre0 t (by
      show Steps p.tables e below (s₁.setTop (mkF m 0 #[.val (.int x)] [])) t
      exact st1 t k)
  obtain ⟨vv3, _, ⟨T3, L3, kk3, nn3⟩, -, X3, ⟨Lc3, hQ3, l3, y3, z3⟩, st3⟩ := Jvm.LawKit.callS X1 hx (y := (⟨"java/lang/StringLatin1", "canEncode", "(C)Z"⟩ : MethodName)) hown (mvT hZ (hw _ (List.mem_of_getElem? (i := 33) rfl))) (mvT hZ (hw _ (List.mem_of_getElem? (i := 34) rfl))) (mvT hZ (hw _ (List.mem_of_getElem? (i := 35) rfl))) (mvT hZ (hw _ (List.mem_of_getElem? (i := 36) rfl))) (by decide) (backOf (W := 0) (own_can l Z a0 hw [] h0 n0 (Nat.le_trans Z0 (Keep.refl h0 []).1) x hx5) hZ (hw _ (List.mem_of_getElem? (i := 36) rfl)) (hw _ (List.mem_of_getElem? (i := 35) rfl)) (by decide) (by decide)) (g := (mkF m 7 #[.val (.int x)] [(.int x)])) rfl (by rw [hml]; rfl) (argsL := [(.int x)]) (rest := []) (lenOf own_pd__C_Z rfl) rfl (by show 2 * 0 + _ ≤ _; exact Nat.le_of_eq rfl) (hb hby own_d_jdk_42_method_139_code_7) (fun _ _ => ⟨rfl, e1, (by decide : 0 + 0 ≤ _), (by decide : 0 + 0 ≤ _)⟩)
  dsimp only [Pt.U, Pt.locs, Pt.cells, Pt.slots] at X3 l3 y3 z3 st3 hQ3
  subst l3 y3 z3
  obtain ⟨rfl, Nq3, e3⟩ := hQ3
  have N3 := Fr.app N0 Nq3
  have ch4 : ∀ t, Steps p.tables e below (T3.setTop (mkF m 10 #[.val (.int x)] [(.int (1 : Int32))])) t → Steps p.tables e below (s₁.setTop (entryFrame m #[(.int x)] 1)) t := fun t k => ch2 t (by
      show Steps p.tables e below (T1.setTop (mkF m 3 #[.val (.int x)] [(.int zC)])) t
      refine XS.ifNo X1.here hx rfl (hb hby own_d_jdk_42_method_139_code_3) rfl ((if0 _ _).trans (feq P5).1) ?_
      show Steps p.tables e below (T1.setTop (mkF m 6 #[.val (.int x)] [])) t
      refine XS.iloadN X1.here hx rfl (hb hby own_d_jdk_42_method_139_code_6) rfl ?_
      show Steps p.tables e below (T1.setTop (mkF m 7 #[.val (.int x)] [(.int x)])) t
      exact st3 t k)
  obtain ⟨T5, hp5, X5, e5, E5, A5, D5, -, st5⟩ := newO X3 hx hZ hown (hw _ (List.mem_of_getElem? (i := 37) rfl)) (hw _ (List.mem_of_getElem? (i := 2) rfl)) (hw _ (List.mem_of_getElem? (i := 3) rfl)) e3 (g := (mkF m 13 #[.val (.int x)] [])) rfl (hb hby own_d_jdk_42_method_139_code_13) (by decide) (by decide)
  obtain ⟨b5, g5⟩ : ∃ z, z = h0.size := ⟨_, rfl⟩
  rw [← g5] at A5 D5 st5
  have g_b5 : n0 ≤ b5 := Nat.le_trans (Nat.le_trans Z0 (Keep.refl h0 []).1) (Nat.le_of_eq g5.symm)
  have sz_b5 : h0.size ≤ b5 := Nat.le_trans (Keep.refl h0 []).1 (Nat.le_of_eq g5.symm)
  have Kp5 := Keep.ext (Keep.refl h0 []) E5
  have F5_27 : Fld Z hp5 b5 "java/lang/String" "coder" "B" (.int (0 : Int32)) := D5 (Or.inr (hw _ (List.mem_of_getElem? (i := 27) rfl))) (ty := .byte) (by decide)
  have F5_29 : Fld Z hp5 b5 "java/lang/String" "value" "[B" .null := D5 (Or.inr (hw _ (List.mem_of_getElem? (i := 29) rfl))) (ty := (.array .byte)) (by decide)
  have ch6 : ∀ t, Steps p.tables e below (T5.setTop (mkF m 16 #[.val (.int x)] [(.ref b5)])) t → Steps p.tables e below (s₁.setTop (entryFrame m #[(.int x)] 1)) t := fun t k => ch4 t (by
      show Steps p.tables e below (T3.setTop (mkF m 10 #[.val (.int x)] [(.int (1 : Int32))])) t
      refine XS.ifNo X3.here hx rfl (hb hby own_d_jdk_42_method_139_code_10) rfl ((if0 _ _).trans (feq (by decide : ¬ (1 : Int32) = (0 : Int32))).1) ?_
      show Steps p.tables e below (T3.setTop (mkF m 13 #[.val (.int x)] [])) t
      exact st5 t k)
  obtain ⟨vv7, _, ⟨T7, L7, kk7, nn7⟩, -, X7, ⟨Lc7, hQ7, l7, y7, z7⟩, st7⟩ := Jvm.LawKit.callS X5 hx (y := (⟨"java/lang/StringLatin1", "toBytes", "(C)[B"⟩ : MethodName)) hown (mvT hZ (hw _ (List.mem_of_getElem? (i := 38) rfl))) (mvT hZ (hw _ (List.mem_of_getElem? (i := 39) rfl))) (mvT hZ (hw _ (List.mem_of_getElem? (i := 35) rfl))) (mvT hZ (hw _ (List.mem_of_getElem? (i := 40) rfl))) (by decide) (backOf (W := 2) (own_tob l Z a0 hw [] hp5 n0 (Nat.le_trans Z0 Kp5.1) x) hZ (hw _ (List.mem_of_getElem? (i := 40) rfl)) (hw _ (List.mem_of_getElem? (i := 35) rfl)) (by decide) (by decide)) (g := (mkF m 18 #[.val (.int x)] [(.int x), (.ref b5), (.ref b5)])) rfl (by rw [hml]; rfl) (argsL := [(.int x)]) (rest := [(.ref b5), (.ref b5)]) (lenOf own_pd__C__B rfl) rfl (by show 2 * 0 + _ ≤ _; exact Nat.le_of_eq rfl) (hb hby own_d_jdk_42_method_139_code_18) (fun _ _ => ⟨rfl, e5, (by decide : 1 + 1 ≤ _), (by decide : 4 + 1 ≤ _)⟩)
  dsimp only [Pt.U, Pt.locs, Pt.cells, Pt.slots] at X7 l7 y7 z7 st7 hQ7
  subst l7 y7 z7
  obtain ⟨hh7, eh7⟩ : ∃ h, T7.heap = h := ⟨_, rfl⟩
  rw [eh7] at hQ7
  obtain ⟨rb, rfl, zq7, Nq7, Kq7⟩ := hQ7
  have N7 := Fr.app N3 Nq7
  have ne_b5_rb : b5 ≠ rb := Nat.ne_of_lt (Nat.lt_of_lt_of_le A5.lt zq7)
  have g_rb : n0 ≤ rb := Nat.le_trans (Nat.le_trans Z0 Kp5.1) zq7
  have sz_rb : h0.size ≤ rb := Nat.le_trans Kp5.1 zq7
  have Kp7 := Keep.trans Kp5 Kq7 all0
  have ch8 : ∀ t, Steps p.tables e below (T7.setTop (mkF m 21 #[.val (.int x)] [(.ref rb), (.ref b5), (.ref b5)])) t → Steps p.tables e below (s₁.setTop (entryFrame m #[(.int x)] 1)) t := fun t k => ch6 t (by
      show Steps p.tables e below (T5.setTop (mkF m 16 #[.val (.int x)] [(.ref b5)])) t
      refine XS.dup X5.here hx rfl (hb hby own_d_jdk_42_method_139_code_16) rfl rfl ?_
      show Steps p.tables e below (T5.setTop (mkF m 17 #[.val (.int x)] [(.ref b5), (.ref b5)])) t
      refine XS.iloadN X5.here hx rfl (hb hby own_d_jdk_42_method_139_code_17) rfl ?_
      show Steps p.tables e below (T5.setTop (mkF m 18 #[.val (.int x)] [(.int x), (.ref b5), (.ref b5)])) t
      exact st7 t k)
  have cf9 := (A5.keep Kq7)
  have cf10 := (F5_29.keep Kq7 nin0)
  have cf11 := (F5_27.keep Kq7 nin0)
  obtain ⟨vv12, _, ⟨T12, L12, kk12, nn12⟩, -, X12, ⟨Lc12, hQ12, l12, y12, z12⟩, st12⟩ := X7.specialBack hx (y := (⟨"java/lang/String", "<init>", "([BB)V"⟩ : MethodName)) rfl hown (mvT hZ (hw _ (List.mem_of_getElem? (i := 41) rfl))) (mvT hZ (hw _ (List.mem_of_getElem? (i := 42) rfl))) (mvT hZ (hw _ (List.mem_of_getElem? (i := 43) rfl))) (by decide) (backOf (W := 1) (own_sbb l Z a0 hw [] hh7 n0 (Nat.le_trans Z0 Kp7.1) b5 rb cf9 cf10 cf11 g_b5) hZ (hw _ (List.mem_of_getElem? (i := 43) rfl)) (hw _ (List.mem_of_getElem? (i := 3) rfl)) (by decide) (by decide)) (g := (mkF m 22 #[.val (.int x)] [(.int (0 : Int32)), (.ref rb), (.ref b5), (.ref b5)])) rfl (by rw [hml]; rfl) (Steps.refl _) (a := b5) (argsL := [(.ref rb), (.int (0 : Int32))]) (rest := [(.ref b5)]) (lenOf own_pd___BB_V rfl) rfl (by show 2 * 0 + _ ≤ _; exact Nat.le_of_eq rfl) (hb hby own_d_jdk_42_method_139_code_22) (fun _ _ => ⟨rfl, eh7, (by decide : 2 + 0 ≤ _), (by decide : 5 + 0 ≤ _)⟩)
  dsimp only [Pt.U, Pt.locs, Pt.cells, Pt.slots] at X12 l12 y12 z12 st12 hQ12
  subst l12 y12 z12
  obtain ⟨hh12, eh12⟩ : ∃ h, T12.heap = h := ⟨_, rfl⟩
  rw [eh12] at hQ12
  obtain ⟨rfl, Nq12, Kq12, fq12_0⟩ := hQ12
  have N12 := Fr.app N7 Nq12
  have Kp12 := Keep.trans Kp7 Kq12 (allS (Or.inr sz_b5) all0)
  have ch13 : ∀ t, Steps p.tables e below (T12.setTop (mkF m 25 #[.val (.int x)] [(.ref b5)])) t → Steps p.tables e below (s₁.setTop (entryFrame m #[(.int x)] 1)) t := fun t k => ch8 t (by
      show Steps p.tables e below (T7.setTop (mkF m 21 #[.val (.int x)] [(.ref rb), (.ref b5), (.ref b5)])) t
      refine XS.iconst X7.here hx rfl (hb hby own_d_jdk_42_method_139_code_21) ?_
      show Steps p.tables e below (T7.setTop (mkF m 22 #[.val (.int x)] [(.int (0 : Int32)), (.ref rb), (.ref b5), (.ref b5)])) t
      exact st12.trans k)
  obtain ⟨fs, hr, hrun, hended, hW, hsame⟩ := X12.leave (v := some (.ref b5)) (fun h => by rw [Bd.returns] at h; cases h)
  refine ⟨_, _, ch13 _ ?_, hrun, hended, _, _, rfl, ?_, ⟨_, rfl⟩, hW, hsame.mono (by decide) (by decide)⟩
  · show Steps p.tables e below (T12.setTop (mkF m 25 #[.val (.int x)] [(.ref b5)])) _
    jvm_step X12.here [X12.here.top, hx, (hb hby own_d_jdk_42_method_139_code_25), X12.method', Bd.returns, Value.isRef, FieldType.isReference]
    first | (intro acts; rw [hr _ acts rfl rfl rfl]) | rw [hr _ _ rfl rfl rfl]
    exact Steps.refl _
  · show QVo Z h0 n0 _ T12.heap _
    rw [eh12]
    exact ⟨_, rfl, sz_b5, N12, Kp12, fq12_0⟩
theorem own_ef_own_ini_00 (m : MethodId) {x0 : Addr} {x1 : Addr} {x2 : Addr} {x3 : Int32} {x4 : Int32} : entryFrame m #[(.ref x0), (.ref x1), (.ref x2), (.int x3), (.int x4)] 5 = mkF m 0 #[.val (.ref x0), .val (.ref x1), .val (.ref x2), .val (.int x3), .val (.int x4)] [] := by first | (simp [entryFrame, mkF, argsToLocals, Value.category, maxLocals]; done) | rfl
set_option maxRecDepth 65536 in
set_option maxHeartbeats 40000000 in
theorem own_ini_00 (l : Launch) (Z : State) (a0 : Array Value) (hw : ∀ d ∈ tables_1, d.before a0 Z = true) (ws : List Jvm.Cond) (h0 : Heap) (n0 : Nat) (Z0 : n0 ≤ h0.size) (b ow ve : Addr) (E : Exa Z h0 b "com/example/nokkel/nokkel/core/ClientRecord") (F_owner : Fld Z h0 b "com/example/nokkel/nokkel/core/ClientRecord" "owner" "Ljava/lang/String;" .null) (F_verifier : Fld Z h0 b "com/example/nokkel/nokkel/core/ClientRecord" "verifier" "Ljava/lang/String;" .null) (F_locksRevoked : Fld Z h0 b "com/example/nokkel/nokkel/core/ClientRecord" "locksRevoked" "Z" (.int (0 : Int32))) (F_graceMissed : Fld Z h0 b "com/example/nokkel/nokkel/core/ClientRecord" "graceMissed" "Z" (.int (0 : Int32))) (g : n0 ≤ b) (Eo : Exa Z h0 ow "java/lang/String") (Ev : Exa Z h0 ve "java/lang/String") :
    MetFree l (⟨"com/example/nokkel/nokkel/core/ClientRecord", "<init>", "(Ljava/lang/String;Ljava/lang/String;ZZ)V"⟩ : MethodName) (head1 (Jvm.Cond.code (⟨"com/example/nokkel/nokkel/core/ClientRecord", "<init>", "(Ljava/lang/String;Ljava/lang/String;ZZ)V"⟩ : MethodName) prog_7_method_2_code 5 none :: ws) ({ frames := 1, cells := 4, slots := 60, locals := 14 } : Room)) (fun a U => a = #[(.ref b), (.ref ow), (.ref ve), (.int (0 : Int32)), (.int (0 : Int32))] ∧ Z.Warmed39 U.vm ∧ U.heap = h0) (fun _ _ _ _ _ => True) (fun _ U o U' => ∃ v L, o = .returned v ∧ QCi Z b ow ve (0 : Int32) (0 : Int32) h0 n0 v U'.heap L ∧ ReturnedEndW U o U' L ({ frames := 1, cells := 4, slots := 60, locals := 14 } : Room).cells ({ frames := 1, cells := 4, slots := 60, locals := 14 } : Room).slots) := by
  refine MetFree.of_bodySF (plainFor_of_name own_pn_com_example_nokkel_nokkel_core_ClientRecord) hisR ?_
  intro p e s m args below meth c s₁ Bd hml0 hP hK
  obtain ⟨rfl, hZ, hh⟩ := hP
  have hx := Bd.exec
  have hby := Bd.bytes
  have hml : c.maxLocals = 5 := hml0
  have hown : s.vm.findClass "com/example/nokkel/nokkel/core/ClientRecord" = some m.cls := findClass_of_methodNamed Bd.named
  have hnm := (name_of_methodNamed Bd.named Bd.method).1
  have X0 : Stand p l e ({ frames := 1, cells := 4, slots := 60, locals := 14 } : Room) (s.setVm s.vm) m #[(.ref b), (.ref ow), (.ref ve), (.int (0 : Int32)), (.int (0 : Int32))] below meth c s₁ [] 0 0 := Stand.of_body Bd
  have hZ : Z.Warmed39 (s.setVm s.vm).vm := hZ
  have hown : (s.setVm s.vm).vm.findClass "com/example/nokkel/nokkel/core/ClientRecord" = some m.cls := hown
  have hS : s.Since s.vm 0 := (State.WarmedH.refl s).since 0
  have hk : 0 ≤ h0.size := Nat.zero_le _
  have e0 : s₁.heap = h0 := by rw [← hh, Bd.state]; rfl
  have N0 := Fr.nil n0
  have pre0 : ∀ t, Steps p.tables e below (s₁.setTop (mkF m 0 #[.val (.ref b), .val (.ref ow), .val (.ref ve), .val (.int (0 : Int32)), .val (.int (0 : Int32))] [])) t → Steps p.tables e below (s₁.setTop (entryFrame m #[(.ref b), (.ref ow), (.ref ve), (.int (0 : Int32)), (.int (0 : Int32))] 5)) t := fun t k => castTop (own_ef_own_ini_00 m) k
  obtain ⟨T1, X1, e1, st1⟩ := initO X0 hx hZ hown (hw _ (List.mem_of_getElem? (i := 50) rfl)) (hw _ (List.mem_of_getElem? (i := 12) rfl)) (hw _ (List.mem_of_getElem? (i := 13) rfl)) e0 (g := (mkF m 1 #[.val (.ref b), .val (.ref ow), .val (.ref ve), .val (.int (0 : Int32)), .val (.int (0 : Int32))] [(.ref b)])) rfl (by rw [hml]; rfl) rfl (hb hby own_d_prog_7_method_2_code_1) (by decide) (W := 0) (by show 2 * 0 + _ ≤ _; exact Nat.le_of_eq rfl) (by decide)
  have ch2 : ∀ t, Steps p.tables e below (T1.setTop (mkF m 4 #[.val (.ref b), .val (.ref ow), .val (.ref ve), .val (.int (0 : Int32)), .val (.int (0 : Int32))] [])) t → Steps p.tables e below (s₁.setTop (entryFrame m #[(.ref b), (.ref ow), (.ref ve), (.int (0 : Int32)), (.int (0 : Int32))] 5)) t := fun t k => pre0 t (by
      show Steps p.tables e below (s₁.setTop (mkF m 0 #[.val (.ref b), .val (.ref ow), .val (.ref ve), .val (.int (0 : Int32)), .val (.int (0 : Int32))] [])) t
      refine XS.aloadN X0.here hx rfl (hb hby own_d_prog_7_method_2_code_0) rfl rfl ?_
      show Steps p.tables e below (s₁.setTop (mkF m 1 #[.val (.ref b), .val (.ref ow), .val (.ref ve), .val (.int (0 : Int32)), .val (.int (0 : Int32))] [(.ref b)])) t
      exact st1 t k)
  obtain ⟨ls3, T3, hp3, ks3, X3, e3, E3, hS, hk, hZ, hown, st3⟩ := ldcS X1 hx hZ hown (hw _ (List.mem_of_getElem? (i := 51) rfl)) (own_wS hw) e1 hS hk (g := (mkF m 6 #[.val (.ref b), .val (.ref ow), .val (.ref ve), .val (.int (0 : Int32)), .val (.int (0 : Int32))] [(.ref ow), (.ref b)])) rfl (hb hby own_d_prog_7_method_2_code_6) (n := 20) (by decide) (by decide) (by decide) (by decide)
  have Kp3 := Keep.ext (Keep.refl h0 [b]) E3
  have ch4 : ∀ t, Steps p.tables e below (T3.setTop (mkF m 8 #[.val (.ref b), .val (.ref ow), .val (.ref ve), .val (.int (0 : Int32)), .val (.int (0 : Int32))] [(.ref ls3), (.ref ow), (.ref b)])) t → Steps p.tables e below (s₁.setTop (entryFrame m #[(.ref b), (.ref ow), (.ref ve), (.int (0 : Int32)), (.int (0 : Int32))] 5)) t := fun t k => ch2 t (by
      show Steps p.tables e below (T1.setTop (mkF m 4 #[.val (.ref b), .val (.ref ow), .val (.ref ve), .val (.int (0 : Int32)), .val (.int (0 : Int32))] [])) t
      refine XS.aloadN X1.here hx rfl (hb hby own_d_prog_7_method_2_code_4) rfl rfl ?_
      show Steps p.tables e below (T1.setTop (mkF m 5 #[.val (.ref b), .val (.ref ow), .val (.ref ve), .val (.int (0 : Int32)), .val (.int (0 : Int32))] [(.ref b)])) t
      refine XS.aloadN X1.here hx rfl (hb hby own_d_prog_7_method_2_code_5) rfl rfl ?_
      show Steps p.tables e below (T1.setTop (mkF m 6 #[.val (.ref b), .val (.ref ow), .val (.ref ve), .val (.int (0 : Int32)), .val (.int (0 : Int32))] [(.ref ow), (.ref b)])) t
      exact st3 t k)
  obtain ⟨vv5, _, ⟨T5, L5, kk5, nn5⟩, -, X5, ⟨Lc5, hQ5, l5, y5, z5⟩, st5⟩ := Jvm.LawKit.callS X3 hx (y := (⟨"java/util/Objects", "requireNonNull", "(Ljava/lang/Object;Ljava/lang/String;)Ljava/lang/Object;"⟩ : MethodName)) hown (mvT hZ (hw _ (List.mem_of_getElem? (i := 54) rfl))) (mvT hZ (hw _ (List.mem_of_getElem? (i := 55) rfl))) (mvT hZ (hw _ (List.mem_of_getElem? (i := 56) rfl))) (mvT hZ (hw _ (List.mem_of_getElem? (i := 57) rfl))) (by decide) (backOf (W := 1) (own_rnn l Z a0 hw [] hp3 n0 (Nat.le_trans Z0 Kp3.1) ow ls3) hZ (hw _ (List.mem_of_getElem? (i := 57) rfl)) (hw _ (List.mem_of_getElem? (i := 56) rfl)) (by decide) (by decide)) (g := (mkF m 8 #[.val (.ref b), .val (.ref ow), .val (.ref ve), .val (.int (0 : Int32)), .val (.int (0 : Int32))] [(.ref ls3), (.ref ow), (.ref b)])) rfl (by rw [hml]; rfl) (argsL := [(.ref ow), (.ref ls3)]) (rest := [(.ref b)]) (lenOf own_pd__Ljava_lang_Object_Ljava_lang_String__Ljava_lang_Object_ rfl) rfl (by show 2 * 0 + _ ≤ _; exact Nat.le_of_eq rfl) (hb hby own_d_prog_7_method_2_code_8) (fun _ _ => ⟨rfl, e3, (by decide : 2 + 0 ≤ _), (by decide : 24 + 0 ≤ _)⟩)
  dsimp only [Pt.U, Pt.locs, Pt.cells, Pt.slots] at X5 l5 y5 z5 st5 hQ5
  subst l5 y5 z5
  obtain ⟨rfl, Nq5, e5⟩ := hQ5
  have N5 := Fr.app N0 Nq5
  have ch6 : ∀ t, Steps p.tables e below (T5.setTop (mkF m 11 #[.val (.ref b), .val (.ref ow), .val (.ref ve), .val (.int (0 : Int32)), .val (.int (0 : Int32))] [(.ref ow), (.ref b)])) t → Steps p.tables e below (s₁.setTop (entryFrame m #[(.ref b), (.ref ow), (.ref ve), (.int (0 : Int32)), (.int (0 : Int32))] 5)) t := fun t k => ch4 t (by
      show Steps p.tables e below (T3.setTop (mkF m 8 #[.val (.ref b), .val (.ref ow), .val (.ref ve), .val (.int (0 : Int32)), .val (.int (0 : Int32))] [(.ref ls3), (.ref ow), (.ref b)])) t
      exact st5 t k)
  have cf7 := (Eo.ext E3)
  obtain ⟨T8, X8, e8, st8⟩ := castY X5 hx hZ hown (hw _ (List.mem_of_getElem? (i := 58) rfl)) e5 (Ins.self cf7) (g := (mkF m 11 #[.val (.ref b), .val (.ref ow), .val (.ref ve), .val (.int (0 : Int32)), .val (.int (0 : Int32))] [(.ref ow), (.ref b)])) rfl rfl (hb hby own_d_prog_7_method_2_code_11)
  have ch9 : ∀ t, Steps p.tables e below (T8.setTop (mkF m 14 #[.val (.ref b), .val (.ref ow), .val (.ref ve), .val (.int (0 : Int32)), .val (.int (0 : Int32))] [(.ref ow), (.ref b)])) t → Steps p.tables e below (s₁.setTop (entryFrame m #[(.ref b), (.ref ow), (.ref ve), (.int (0 : Int32)), (.int (0 : Int32))] 5)) t := fun t k => ch6 t (by
      show Steps p.tables e below (T5.setTop (mkF m 11 #[.val (.ref b), .val (.ref ow), .val (.ref ve), .val (.int (0 : Int32)), .val (.int (0 : Int32))] [(.ref ow), (.ref b)])) t
      exact st8 t k)
  have cf10 := (F_owner.ext E3)
  have cf11 := (E.ext E3)
  obtain ⟨T12, hp12, X12, e12, W12, st12⟩ := putF X8 hx hZ hown (host := "") (Or.inl (hw _ (List.mem_of_getElem? (i := 59) rfl))) Via.refl e8 cf10 cf11 (Or.inr ⟨(hw _ (List.mem_of_getElem? (i := 60) rfl)), rfl, hnm⟩) (hw _ (List.mem_of_getElem? (i := 45) rfl)) (ty := (.object "java/lang/String")) (by decide) rfl rfl (g := (mkF m 14 #[.val (.ref b), .val (.ref ow), .val (.ref ve), .val (.int (0 : Int32)), .val (.int (0 : Int32))] [(.ref ow), (.ref b)])) rfl rfl (hb hby own_d_prog_7_method_2_code_14)
  have ch13 : ∀ t, Steps p.tables e below (T12.setTop (mkF m 17 #[.val (.ref b), .val (.ref ow), .val (.ref ve), .val (.int (0 : Int32)), .val (.int (0 : Int32))] [])) t → Steps p.tables e below (s₁.setTop (entryFrame m #[(.ref b), (.ref ow), (.ref ve), (.int (0 : Int32)), (.int (0 : Int32))] 5)) t := fun t k => ch9 t (by
      show Steps p.tables e below (T8.setTop (mkF m 14 #[.val (.ref b), .val (.ref ow), .val (.ref ve), .val (.int (0 : Int32)), .val (.int (0 : Int32))] [(.ref ow), (.ref b)])) t
      exact st12 t k)
  have Fw12 := Fld.same W12 cf10
  have hk := Nat.le_trans hk (Keep.of_wr W12).1
  have N12 := Fr.snoc X12 N5 g
  have Kp12 := Keep.wr Kp3 W12 (Or.inl (List.mem_of_getElem? (i := 0) rfl))
  obtain ⟨ls14, T14, hp14, ks14, X14, e14, E14, hS, hk, hZ, hown, st14⟩ := ldcS X12 hx hZ hown (hw _ (List.mem_of_getElem? (i := 61) rfl)) (own_wS hw) e12 hS hk (g := (mkF m 19 #[.val (.ref b), .val (.ref ow), .val (.ref ve), .val (.int (0 : Int32)), .val (.int (0 : Int32))] [(.ref ve), (.ref b)])) rfl (hb hby own_d_prog_7_method_2_code_19) (n := 32) (by decide) (by decide) (by decide) (by decide)
  have Kp14 := Keep.ext Kp12 E14
  have ch15 : ∀ t, Steps p.tables e below (T14.setTop (mkF m 21 #[.val (.ref b), .val (.ref ow), .val (.ref ve), .val (.int (0 : Int32)), .val (.int (0 : Int32))] [(.ref ls14), (.ref ve), (.ref b)])) t → Steps p.tables e below (s₁.setTop (entryFrame m #[(.ref b), (.ref ow), (.ref ve), (.int (0 : Int32)), (.int (0 : Int32))] 5)) t := fun t k => ch13 t (by
      show Steps p.tables e below (T12.setTop (mkF m 17 #[.val (.ref b), .val (.ref ow), .val (.ref ve), .val (.int (0 : Int32)), .val (.int (0 : Int32))] [])) t
      refine XS.aloadN X12.here hx rfl (hb hby own_d_prog_7_method_2_code_17) rfl rfl ?_
      show Steps p.tables e below (T12.setTop (mkF m 18 #[.val (.ref b), .val (.ref ow), .val (.ref ve), .val (.int (0 : Int32)), .val (.int (0 : Int32))] [(.ref b)])) t
      refine XS.aloadN X12.here hx rfl (hb hby own_d_prog_7_method_2_code_18) rfl rfl ?_
      show Steps p.tables e below (T12.setTop (mkF m 19 #[.val (.ref b), .val (.ref ow), .val (.ref ve), .val (.int (0 : Int32)), .val (.int (0 : Int32))] [(.ref ve), (.ref b)])) t
      exact st14 t k)
  obtain ⟨vv16, _, ⟨T16, L16, kk16, nn16⟩, -, X16, ⟨Lc16, hQ16, l16, y16, z16⟩, st16⟩ := Jvm.LawKit.callS X14 hx (y := (⟨"java/util/Objects", "requireNonNull", "(Ljava/lang/Object;Ljava/lang/String;)Ljava/lang/Object;"⟩ : MethodName)) hown (mvT hZ (hw _ (List.mem_of_getElem? (i := 54) rfl))) (mvT hZ (hw _ (List.mem_of_getElem? (i := 55) rfl))) (mvT hZ (hw _ (List.mem_of_getElem? (i := 56) rfl))) (mvT hZ (hw _ (List.mem_of_getElem? (i := 57) rfl))) (by decide) (backOf (W := 1) (own_rnn l Z a0 hw [] hp14 n0 (Nat.le_trans Z0 Kp14.1) ve ls14) hZ (hw _ (List.mem_of_getElem? (i := 57) rfl)) (hw _ (List.mem_of_getElem? (i := 56) rfl)) (by decide) (by decide)) (g := (mkF m 21 #[.val (.ref b), .val (.ref ow), .val (.ref ve), .val (.int (0 : Int32)), .val (.int (0 : Int32))] [(.ref ls14), (.ref ve), (.ref b)])) rfl (by rw [hml]; rfl) (argsL := [(.ref ve), (.ref ls14)]) (rest := [(.ref b)]) (lenOf own_pd__Ljava_lang_Object_Ljava_lang_String__Ljava_lang_Object_ rfl) rfl (by show 2 * 0 + _ ≤ _; exact Nat.le_of_eq rfl) (hb hby own_d_prog_7_method_2_code_21) (fun _ _ => ⟨rfl, e14, (by decide : 4 + 0 ≤ _), (by decide : 60 + 0 ≤ _)⟩)
  dsimp only [Pt.U, Pt.locs, Pt.cells, Pt.slots] at X16 l16 y16 z16 st16 hQ16
  subst l16 y16 z16
  obtain ⟨rfl, Nq16, e16⟩ := hQ16
  have N16 := Fr.app N12 Nq16
  have ch17 : ∀ t, Steps p.tables e below (T16.setTop (mkF m 24 #[.val (.ref b), .val (.ref ow), .val (.ref ve), .val (.int (0 : Int32)), .val (.int (0 : Int32))] [(.ref ve), (.ref b)])) t → Steps p.tables e below (s₁.setTop (entryFrame m #[(.ref b), (.ref ow), (.ref ve), (.int (0 : Int32)), (.int (0 : Int32))] 5)) t := fun t k => ch15 t (by
      show Steps p.tables e below (T14.setTop (mkF m 21 #[.val (.ref b), .val (.ref ow), .val (.ref ve), .val (.int (0 : Int32)), .val (.int (0 : Int32))] [(.ref ls14), (.ref ve), (.ref b)])) t
      exact st16 t k)
  have cf18 := ((Exa.wr W12 (Ev.ext E3)).ext E14)
  obtain ⟨T19, X19, e19, st19⟩ := castY X16 hx hZ hown (hw _ (List.mem_of_getElem? (i := 58) rfl)) e16 (Ins.self cf18) (g := (mkF m 24 #[.val (.ref b), .val (.ref ow), .val (.ref ve), .val (.int (0 : Int32)), .val (.int (0 : Int32))] [(.ref ve), (.ref b)])) rfl rfl (hb hby own_d_prog_7_method_2_code_24)
  have ch20 : ∀ t, Steps p.tables e below (T19.setTop (mkF m 27 #[.val (.ref b), .val (.ref ow), .val (.ref ve), .val (.int (0 : Int32)), .val (.int (0 : Int32))] [(.ref ve), (.ref b)])) t → Steps p.tables e below (s₁.setTop (entryFrame m #[(.ref b), (.ref ow), (.ref ve), (.int (0 : Int32)), (.int (0 : Int32))] 5)) t := fun t k => ch17 t (by
      show Steps p.tables e below (T16.setTop (mkF m 24 #[.val (.ref b), .val (.ref ow), .val (.ref ve), .val (.int (0 : Int32)), .val (.int (0 : Int32))] [(.ref ve), (.ref b)])) t
      exact st19 t k)
  have cf21 := ((Fld.other W12 (F_verifier.ext E3) (Or.inr (slot_ne (Or.inr (hw _ (List.mem_of_getElem? (i := 63) rfl))) (Or.inr (hw _ (List.mem_of_getElem? (i := 60) rfl))) (by decide) (t := (.object "java/lang/String")) (t' := (.object "java/lang/String")) (by decide) (by decide)))).ext E14)
  have cf22 := ((Exa.wr W12 cf11).ext E14)
  obtain ⟨T23, hp23, X23, e23, W23, st23⟩ := putF X19 hx hZ hown (host := "") (Or.inl (hw _ (List.mem_of_getElem? (i := 62) rfl))) Via.refl e19 cf21 cf22 (Or.inr ⟨(hw _ (List.mem_of_getElem? (i := 63) rfl)), rfl, hnm⟩) (hw _ (List.mem_of_getElem? (i := 45) rfl)) (ty := (.object "java/lang/String")) (by decide) rfl rfl (g := (mkF m 27 #[.val (.ref b), .val (.ref ow), .val (.ref ve), .val (.int (0 : Int32)), .val (.int (0 : Int32))] [(.ref ve), (.ref b)])) rfl rfl (hb hby own_d_prog_7_method_2_code_27)
  have ch24 : ∀ t, Steps p.tables e below (T23.setTop (mkF m 30 #[.val (.ref b), .val (.ref ow), .val (.ref ve), .val (.int (0 : Int32)), .val (.int (0 : Int32))] [])) t → Steps p.tables e below (s₁.setTop (entryFrame m #[(.ref b), (.ref ow), (.ref ve), (.int (0 : Int32)), (.int (0 : Int32))] 5)) t := fun t k => ch20 t (by
      show Steps p.tables e below (T19.setTop (mkF m 27 #[.val (.ref b), .val (.ref ow), .val (.ref ve), .val (.int (0 : Int32)), .val (.int (0 : Int32))] [(.ref ve), (.ref b)])) t
      exact st23 t k)
  have Fw23 := Fld.same W23 cf21
  have hk := Nat.le_trans hk (Keep.of_wr W23).1
  have N23 := Fr.snoc X23 N16 g
  have Kp23 := Keep.wr Kp14 W23 (Or.inl (List.mem_of_getElem? (i := 0) rfl))
  have cf25 := (Fld.other W23 ((Fld.other W12 (F_locksRevoked.ext E3) (Or.inr (slot_ne (Or.inr (hw _ (List.mem_of_getElem? (i := 65) rfl))) (Or.inr (hw _ (List.mem_of_getElem? (i := 60) rfl))) (by decide) (t := .boolean) (t' := (.object "java/lang/String")) (by decide) (by decide)))).ext E14) (Or.inr (slot_ne (Or.inr (hw _ (List.mem_of_getElem? (i := 65) rfl))) (Or.inr (hw _ (List.mem_of_getElem? (i := 63) rfl))) (by decide) (t := .boolean) (t' := (.object "java/lang/String")) (by decide) (by decide))))
  have cf26 := (Exa.wr W23 cf22)
  obtain ⟨T27, hp27, X27, e27, W27, st27⟩ := putFN X23 hx hZ hown (hw _ (List.mem_of_getElem? (i := 64) rfl)) Via.refl e23 cf25 cf26 (Or.inr ⟨(hw _ (List.mem_of_getElem? (i := 65) rfl)), rfl, hnm⟩) (hw _ (List.mem_of_getElem? (i := 45) rfl)) (ty := .boolean) (v' := (.int (0 : Int32))) (by decide) (by first | rfl | decide) (by first | rfl | decide) (g := (mkF m 32 #[.val (.ref b), .val (.ref ow), .val (.ref ve), .val (.int (0 : Int32)), .val (.int (0 : Int32))] [(.int (0 : Int32)), (.ref b)])) rfl rfl (hb hby own_d_prog_7_method_2_code_32)
  have ch28 : ∀ t, Steps p.tables e below (T27.setTop (mkF m 35 #[.val (.ref b), .val (.ref ow), .val (.ref ve), .val (.int (0 : Int32)), .val (.int (0 : Int32))] [])) t → Steps p.tables e below (s₁.setTop (entryFrame m #[(.ref b), (.ref ow), (.ref ve), (.int (0 : Int32)), (.int (0 : Int32))] 5)) t := fun t k => ch24 t (by
      show Steps p.tables e below (T23.setTop (mkF m 30 #[.val (.ref b), .val (.ref ow), .val (.ref ve), .val (.int (0 : Int32)), .val (.int (0 : Int32))] [])) t
      refine XS.aloadN X23.here hx rfl (hb hby own_d_prog_7_method_2_code_30) rfl rfl ?_
      show Steps p.tables e below (T23.setTop (mkF m 31 #[.val (.ref b), .val (.ref ow), .val (.ref ve), .val (.int (0 : Int32)), .val (.int (0 : Int32))] [(.ref b)])) t
      refine XS.iloadN X23.here hx rfl (hb hby own_d_prog_7_method_2_code_31) rfl ?_
      show Steps p.tables e below (T23.setTop (mkF m 32 #[.val (.ref b), .val (.ref ow), .val (.ref ve), .val (.int (0 : Int32)), .val (.int (0 : Int32))] [(.int (0 : Int32)), (.ref b)])) t
      exact st27 t k)
  have Fw27 := Fld.same W27 cf25
  have hk := Nat.le_trans hk (Keep.of_wr W27).1
  have N27 := Fr.snoc X27 N23 g
  have Kp27 := Keep.wr Kp23 W27 (Or.inl (List.mem_of_getElem? (i := 0) rfl))
  have cf29 := (Fld.other W27 (Fld.other W23 ((Fld.other W12 (F_graceMissed.ext E3) (Or.inr (slot_ne (Or.inr (hw _ (List.mem_of_getElem? (i := 67) rfl))) (Or.inr (hw _ (List.mem_of_getElem? (i := 60) rfl))) (by decide) (t := .boolean) (t' := (.object "java/lang/String")) (by decide) (by decide)))).ext E14) (Or.inr (slot_ne (Or.inr (hw _ (List.mem_of_getElem? (i := 67) rfl))) (Or.inr (hw _ (List.mem_of_getElem? (i := 63) rfl))) (by decide) (t := .boolean) (t' := (.object "java/lang/String")) (by decide) (by decide)))) (Or.inr (slot_ne (Or.inr (hw _ (List.mem_of_getElem? (i := 67) rfl))) (Or.inr (hw _ (List.mem_of_getElem? (i := 65) rfl))) (by decide) (t := .boolean) (t' := .boolean) (by decide) (by decide))))
  have cf30 := (Exa.wr W27 cf26)
  obtain ⟨T31, hp31, X31, e31, W31, st31⟩ := putFN X27 hx hZ hown (hw _ (List.mem_of_getElem? (i := 66) rfl)) Via.refl e27 cf29 cf30 (Or.inr ⟨(hw _ (List.mem_of_getElem? (i := 67) rfl)), rfl, hnm⟩) (hw _ (List.mem_of_getElem? (i := 45) rfl)) (ty := .boolean) (v' := (.int (0 : Int32))) (by decide) (by first | rfl | decide) (by first | rfl | decide) (g := (mkF m 38 #[.val (.ref b), .val (.ref ow), .val (.ref ve), .val (.int (0 : Int32)), .val (.int (0 : Int32))] [(.int (0 : Int32)), (.ref b)])) rfl rfl (hb hby own_d_prog_7_method_2_code_38)
  have ch32 : ∀ t, Steps p.tables e below (T31.setTop (mkF m 41 #[.val (.ref b), .val (.ref ow), .val (.ref ve), .val (.int (0 : Int32)), .val (.int (0 : Int32))] [])) t → Steps p.tables e below (s₁.setTop (entryFrame m #[(.ref b), (.ref ow), (.ref ve), (.int (0 : Int32)), (.int (0 : Int32))] 5)) t := fun t k => ch28 t (by
      show Steps p.tables e below (T27.setTop (mkF m 35 #[.val (.ref b), .val (.ref ow), .val (.ref ve), .val (.int (0 : Int32)), .val (.int (0 : Int32))] [])) t
      refine XS.aloadN X27.here hx rfl (hb hby own_d_prog_7_method_2_code_35) rfl rfl ?_
      show Steps p.tables e below (T27.setTop (mkF m 36 #[.val (.ref b), .val (.ref ow), .val (.ref ve), .val (.int (0 : Int32)), .val (.int (0 : Int32))] [(.ref b)])) t
      refine XS.iload X27.here hx rfl (hb hby own_d_prog_7_method_2_code_36) rfl ?_
      show Steps p.tables e below (T27.setTop (mkF m 38 #[.val (.ref b), .val (.ref ow), .val (.ref ve), .val (.int (0 : Int32)), .val (.int (0 : Int32))] [(.int (0 : Int32)), (.ref b)])) t
      exact st31 t k)
  have Fw31 := Fld.same W31 cf29
  have hk := Nat.le_trans hk (Keep.of_wr W31).1
  have N31 := Fr.snoc X31 N27 g
  have Kp31 := Keep.wr Kp27 W31 (Or.inl (List.mem_of_getElem? (i := 0) rfl))
  have cf33 := (Exa.wr W31 cf30)
  have cf34 := (Fld.other W31 (Fld.other W27 (Fld.other W23 (Fw12.ext E14) (Or.inr (slot_ne (Or.inr (hw _ (List.mem_of_getElem? (i := 60) rfl))) (Or.inr (hw _ (List.mem_of_getElem? (i := 63) rfl))) (by decide) (t := (.object "java/lang/String")) (t' := (.object "java/lang/String")) (by decide) (by decide)))) (Or.inr (slot_ne (Or.inr (hw _ (List.mem_of_getElem? (i := 60) rfl))) (Or.inr (hw _ (List.mem_of_getElem? (i := 65) rfl))) (by decide) (t := (.object "java/lang/String")) (t' := .boolean) (by decide) (by decide)))) (Or.inr (slot_ne (Or.inr (hw _ (List.mem_of_getElem? (i := 60) rfl))) (Or.inr (hw _ (List.mem_of_getElem? (i := 67) rfl))) (by decide) (t := (.object "java/lang/String")) (t' := .boolean) (by decide) (by decide))))
  have cf35 := (Fld.other W31 (Fld.other W27 Fw23 (Or.inr (slot_ne (Or.inr (hw _ (List.mem_of_getElem? (i := 63) rfl))) (Or.inr (hw _ (List.mem_of_getElem? (i := 65) rfl))) (by decide) (t := (.object "java/lang/String")) (t' := .boolean) (by decide) (by decide)))) (Or.inr (slot_ne (Or.inr (hw _ (List.mem_of_getElem? (i := 63) rfl))) (Or.inr (hw _ (List.mem_of_getElem? (i := 67) rfl))) (by decide) (t := (.object "java/lang/String")) (t' := .boolean) (by decide) (by decide))))
  have cf36 := (Fld.other W31 Fw27 (Or.inr (slot_ne (Or.inr (hw _ (List.mem_of_getElem? (i := 65) rfl))) (Or.inr (hw _ (List.mem_of_getElem? (i := 67) rfl))) (by decide) (t := .boolean) (t' := .boolean) (by decide) (by decide))))
  obtain ⟨fs, hr, hrun, hended, hend⟩ := X31.leaveW hS (by rw [e31]; exact hk) (v := none) (fun _ => rfl)
  refine ⟨_, _, ch32 _ ?_, hrun, hended, _, _, rfl, ?_, hend.1, hend.2.1, hend.2.2.1, hend.2.2.2.mono (by decide) (by decide)⟩
  · show Steps p.tables e below (T31.setTop (mkF m 41 #[.val (.ref b), .val (.ref ow), .val (.ref ve), .val (.int (0 : Int32)), .val (.int (0 : Int32))] [])) _
    exact X31.returnOut hx Bd.returns (hb hby own_d_prog_7_method_2_code_41) hr
  · show QCi Z b ow ve (0 : Int32) (0 : Int32) h0 n0 _ T31.heap _
    rw [e31]
    exact ⟨rfl, N31, Kp31, cf33, cf34, cf35, cf36, Fw31⟩
theorem own_ef_own_ini_01 (m : MethodId) {x0 : Addr} {x1 : Addr} {x2 : Addr} {x3 : Int32} {x4 : Int32} : entryFrame m #[(.ref x0), (.ref x1), (.ref x2), (.int x3), (.int x4)] 5 = mkF m 0 #[.val (.ref x0), .val (.ref x1), .val (.ref x2), .val (.int x3), .val (.int x4)] [] := by first | (simp [entryFrame, mkF, argsToLocals, Value.category, maxLocals]; done) | rfl
set_option maxRecDepth 65536 in
set_option maxHeartbeats 40000000 in
theorem own_ini_01 (l : Launch) (Z : State) (a0 : Array Value) (hw : ∀ d ∈ tables_1, d.before a0 Z = true) (ws : List Jvm.Cond) (h0 : Heap) (n0 : Nat) (Z0 : n0 ≤ h0.size) (b ow ve : Addr) (E : Exa Z h0 b "com/example/nokkel/nokkel/core/ClientRecord") (F_owner : Fld Z h0 b "com/example/nokkel/nokkel/core/ClientRecord" "owner" "Ljava/lang/String;" .null) (F_verifier : Fld Z h0 b "com/example/nokkel/nokkel/core/ClientRecord" "verifier" "Ljava/lang/String;" .null) (F_locksRevoked : Fld Z h0 b "com/example/nokkel/nokkel/core/ClientRecord" "locksRevoked" "Z" (.int (0 : Int32))) (F_graceMissed : Fld Z h0 b "com/example/nokkel/nokkel/core/ClientRecord" "graceMissed" "Z" (.int (0 : Int32))) (g : n0 ≤ b) (Eo : Exa Z h0 ow "java/lang/String") (Ev : Exa Z h0 ve "java/lang/String") :
    MetFree l (⟨"com/example/nokkel/nokkel/core/ClientRecord", "<init>", "(Ljava/lang/String;Ljava/lang/String;ZZ)V"⟩ : MethodName) (head1 (Jvm.Cond.code (⟨"com/example/nokkel/nokkel/core/ClientRecord", "<init>", "(Ljava/lang/String;Ljava/lang/String;ZZ)V"⟩ : MethodName) prog_7_method_2_code 5 none :: ws) ({ frames := 1, cells := 4, slots := 60, locals := 14 } : Room)) (fun a U => a = #[(.ref b), (.ref ow), (.ref ve), (.int (0 : Int32)), (.int (1 : Int32))] ∧ Z.Warmed39 U.vm ∧ U.heap = h0) (fun _ _ _ _ _ => True) (fun _ U o U' => ∃ v L, o = .returned v ∧ QCi Z b ow ve (0 : Int32) (1 : Int32) h0 n0 v U'.heap L ∧ ReturnedEndW U o U' L ({ frames := 1, cells := 4, slots := 60, locals := 14 } : Room).cells ({ frames := 1, cells := 4, slots := 60, locals := 14 } : Room).slots) := by
  refine MetFree.of_bodySF (plainFor_of_name own_pn_com_example_nokkel_nokkel_core_ClientRecord) hisR ?_
  intro p e s m args below meth c s₁ Bd hml0 hP hK
  obtain ⟨rfl, hZ, hh⟩ := hP
  have hx := Bd.exec
  have hby := Bd.bytes
  have hml : c.maxLocals = 5 := hml0
  have hown : s.vm.findClass "com/example/nokkel/nokkel/core/ClientRecord" = some m.cls := findClass_of_methodNamed Bd.named
  have hnm := (name_of_methodNamed Bd.named Bd.method).1
  have X0 : Stand p l e ({ frames := 1, cells := 4, slots := 60, locals := 14 } : Room) (s.setVm s.vm) m #[(.ref b), (.ref ow), (.ref ve), (.int (0 : Int32)), (.int (1 : Int32))] below meth c s₁ [] 0 0 := Stand.of_body Bd
  have hZ : Z.Warmed39 (s.setVm s.vm).vm := hZ
  have hown : (s.setVm s.vm).vm.findClass "com/example/nokkel/nokkel/core/ClientRecord" = some m.cls := hown
  have hS : s.Since s.vm 0 := (State.WarmedH.refl s).since 0
  have hk : 0 ≤ h0.size := Nat.zero_le _
  have e0 : s₁.heap = h0 := by rw [← hh, Bd.state]; rfl
  have N0 := Fr.nil n0
  have pre0 : ∀ t, Steps p.tables e below (s₁.setTop (mkF m 0 #[.val (.ref b), .val (.ref ow), .val (.ref ve), .val (.int (0 : Int32)), .val (.int (1 : Int32))] [])) t → Steps p.tables e below (s₁.setTop (entryFrame m #[(.ref b), (.ref ow), (.ref ve), (.int (0 : Int32)), (.int (1 : Int32))] 5)) t := fun t k => castTop (own_ef_own_ini_01 m) k
  obtain ⟨T1, X1, e1, st1⟩ := initO X0 hx hZ hown (hw _ (List.mem_of_getElem? (i := 50) rfl)) (hw _ (List.mem_of_getElem? (i := 12) rfl)) (hw _ (List.mem_of_getElem? (i := 13) rfl)) e0 (g := (mkF m 1 #[.val (.ref b), .val (.ref ow), .val (.ref ve), .val (.int (0 : Int32)), .val (.int (1 : Int32))] [(.ref b)])) rfl (by rw [hml]; rfl) rfl (hb hby own_d_prog_7_method_2_code_1) (by decide) (W := 0) (by show 2 * 0 + _ ≤ _; exact Nat.le_of_eq rfl) (by decide)
  have ch2 : ∀ t, Steps p.tables e below (T1.setTop (mkF m 4 #[.val (.ref b), .val (.ref ow), .val (.ref ve), .val (.int (0 : Int32)), .val (.int (1 : Int32))] [])) t → Steps p.tables e below (s₁.setTop (entryFrame m #[(.ref b), (.ref ow), (.ref ve), (.int (0 : Int32)), (.int (1 : Int32))] 5)) t := fun t k => pre0 t (by
      show Steps p.tables e below (s₁.setTop (mkF m 0 #[.val (.ref b), .val (.ref ow), .val (.ref ve), .val (.int (0 : Int32)), .val (.int (1 : Int32))] [])) t
      refine XS.aloadN X0.here hx rfl (hb hby own_d_prog_7_method_2_code_0) rfl rfl ?_
      show Steps p.tables e below (s₁.setTop (mkF m 1 #[.val (.ref b), .val (.ref ow), .val (.ref ve), .val (.int (0 : Int32)), .val (.int (1 : Int32))] [(.ref b)])) t
      exact st1 t k)
  obtain ⟨ls3, T3, hp3, ks3, X3, e3, E3, hS, hk, hZ, hown, st3⟩ := ldcS X1 hx hZ hown (hw _ (List.mem_of_getElem? (i := 51) rfl)) (own_wS hw) e1 hS hk (g := (mkF m 6 #[.val (.ref b), .val (.ref ow), .val (.ref ve), .val (.int (0 : Int32)), .val (.int (1 : Int32))] [(.ref ow), (.ref b)])) rfl (hb hby own_d_prog_7_method_2_code_6) (n := 20) (by decide) (by decide) (by decide) (by decide)
  have Kp3 := Keep.ext (Keep.refl h0 [b]) E3
  have ch4 : ∀ t, Steps p.tables e below (T3.setTop (mkF m 8 #[.val (.ref b), .val (.ref ow), .val (.ref ve), .val (.int (0 : Int32)), .val (.int (1 : Int32))] [(.ref ls3), (.ref ow), (.ref b)])) t → Steps p.tables e below (s₁.setTop (entryFrame m #[(.ref b), (.ref ow), (.ref ve), (.int (0 : Int32)), (.int (1 : Int32))] 5)) t := fun t k => ch2 t (by
      show Steps p.tables e below (T1.setTop (mkF m 4 #[.val (.ref b), .val (.ref ow), .val (.ref ve), .val (.int (0 : Int32)), .val (.int (1 : Int32))] [])) t
      refine XS.aloadN X1.here hx rfl (hb hby own_d_prog_7_method_2_code_4) rfl rfl ?_
      show Steps p.tables e below (T1.setTop (mkF m 5 #[.val (.ref b), .val (.ref ow), .val (.ref ve), .val (.int (0 : Int32)), .val (.int (1 : Int32))] [(.ref b)])) t
      refine XS.aloadN X1.here hx rfl (hb hby own_d_prog_7_method_2_code_5) rfl rfl ?_
      show Steps p.tables e below (T1.setTop (mkF m 6 #[.val (.ref b), .val (.ref ow), .val (.ref ve), .val (.int (0 : Int32)), .val (.int (1 : Int32))] [(.ref ow), (.ref b)])) t
      exact st3 t k)
  obtain ⟨vv5, _, ⟨T5, L5, kk5, nn5⟩, -, X5, ⟨Lc5, hQ5, l5, y5, z5⟩, st5⟩ := Jvm.LawKit.callS X3 hx (y := (⟨"java/util/Objects", "requireNonNull", "(Ljava/lang/Object;Ljava/lang/String;)Ljava/lang/Object;"⟩ : MethodName)) hown (mvT hZ (hw _ (List.mem_of_getElem? (i := 54) rfl))) (mvT hZ (hw _ (List.mem_of_getElem? (i := 55) rfl))) (mvT hZ (hw _ (List.mem_of_getElem? (i := 56) rfl))) (mvT hZ (hw _ (List.mem_of_getElem? (i := 57) rfl))) (by decide) (backOf (W := 1) (own_rnn l Z a0 hw [] hp3 n0 (Nat.le_trans Z0 Kp3.1) ow ls3) hZ (hw _ (List.mem_of_getElem? (i := 57) rfl)) (hw _ (List.mem_of_getElem? (i := 56) rfl)) (by decide) (by decide)) (g := (mkF m 8 #[.val (.ref b), .val (.ref ow), .val (.ref ve), .val (.int (0 : Int32)), .val (.int (1 : Int32))] [(.ref ls3), (.ref ow), (.ref b)])) rfl (by rw [hml]; rfl) (argsL := [(.ref ow), (.ref ls3)]) (rest := [(.ref b)]) (lenOf own_pd__Ljava_lang_Object_Ljava_lang_String__Ljava_lang_Object_ rfl) rfl (by show 2 * 0 + _ ≤ _; exact Nat.le_of_eq rfl) (hb hby own_d_prog_7_method_2_code_8) (fun _ _ => ⟨rfl, e3, (by decide : 2 + 0 ≤ _), (by decide : 24 + 0 ≤ _)⟩)
  dsimp only [Pt.U, Pt.locs, Pt.cells, Pt.slots] at X5 l5 y5 z5 st5 hQ5
  subst l5 y5 z5
  obtain ⟨rfl, Nq5, e5⟩ := hQ5
  have N5 := Fr.app N0 Nq5
  have ch6 : ∀ t, Steps p.tables e below (T5.setTop (mkF m 11 #[.val (.ref b), .val (.ref ow), .val (.ref ve), .val (.int (0 : Int32)), .val (.int (1 : Int32))] [(.ref ow), (.ref b)])) t → Steps p.tables e below (s₁.setTop (entryFrame m #[(.ref b), (.ref ow), (.ref ve), (.int (0 : Int32)), (.int (1 : Int32))] 5)) t := fun t k => ch4 t (by
      show Steps p.tables e below (T3.setTop (mkF m 8 #[.val (.ref b), .val (.ref ow), .val (.ref ve), .val (.int (0 : Int32)), .val (.int (1 : Int32))] [(.ref ls3), (.ref ow), (.ref b)])) t
      exact st5 t k)
  have cf7 := (Eo.ext E3)
  obtain ⟨T8, X8, e8, st8⟩ := castY X5 hx hZ hown (hw _ (List.mem_of_getElem? (i := 58) rfl)) e5 (Ins.self cf7) (g := (mkF m 11 #[.val (.ref b), .val (.ref ow), .val (.ref ve), .val (.int (0 : Int32)), .val (.int (1 : Int32))] [(.ref ow), (.ref b)])) rfl rfl (hb hby own_d_prog_7_method_2_code_11)
  have ch9 : ∀ t, Steps p.tables e below (T8.setTop (mkF m 14 #[.val (.ref b), .val (.ref ow), .val (.ref ve), .val (.int (0 : Int32)), .val (.int (1 : Int32))] [(.ref ow), (.ref b)])) t → Steps p.tables e below (s₁.setTop (entryFrame m #[(.ref b), (.ref ow), (.ref ve), (.int (0 : Int32)), (.int (1 : Int32))] 5)) t := fun t k => ch6 t (by
      show Steps p.tables e below (T5.setTop (mkF m 11 #[.val (.ref b), .val (.ref ow), .val (.ref ve), .val (.int (0 : Int32)), .val (.int (1 : Int32))] [(.ref ow), (.ref b)])) t
      exact st8 t k)
  have cf10 := (F_owner.ext E3)
  have cf11 := (E.ext E3)
  obtain ⟨T12, hp12, X12, e12, W12, st12⟩ := putF X8 hx hZ hown (host := "") (Or.inl (hw _ (List.mem_of_getElem? (i := 59) rfl))) Via.refl e8 cf10 cf11 (Or.inr ⟨(hw _ (List.mem_of_getElem? (i := 60) rfl)), rfl, hnm⟩) (hw _ (List.mem_of_getElem? (i := 45) rfl)) (ty := (.object "java/lang/String")) (by decide) rfl rfl (g := (mkF m 14 #[.val (.ref b), .val (.ref ow), .val (.ref ve), .val (.int (0 : Int32)), .val (.int (1 : Int32))] [(.ref ow), (.ref b)])) rfl rfl (hb hby own_d_prog_7_method_2_code_14)
  have ch13 : ∀ t, Steps p.tables e below (T12.setTop (mkF m 17 #[.val (.ref b), .val (.ref ow), .val (.ref ve), .val (.int (0 : Int32)), .val (.int (1 : Int32))] [])) t → Steps p.tables e below (s₁.setTop (entryFrame m #[(.ref b), (.ref ow), (.ref ve), (.int (0 : Int32)), (.int (1 : Int32))] 5)) t := fun t k => ch9 t (by
      show Steps p.tables e below (T8.setTop (mkF m 14 #[.val (.ref b), .val (.ref ow), .val (.ref ve), .val (.int (0 : Int32)), .val (.int (1 : Int32))] [(.ref ow), (.ref b)])) t
      exact st12 t k)
  have Fw12 := Fld.same W12 cf10
  have hk := Nat.le_trans hk (Keep.of_wr W12).1
  have N12 := Fr.snoc X12 N5 g
  have Kp12 := Keep.wr Kp3 W12 (Or.inl (List.mem_of_getElem? (i := 0) rfl))
  obtain ⟨ls14, T14, hp14, ks14, X14, e14, E14, hS, hk, hZ, hown, st14⟩ := ldcS X12 hx hZ hown (hw _ (List.mem_of_getElem? (i := 61) rfl)) (own_wS hw) e12 hS hk (g := (mkF m 19 #[.val (.ref b), .val (.ref ow), .val (.ref ve), .val (.int (0 : Int32)), .val (.int (1 : Int32))] [(.ref ve), (.ref b)])) rfl (hb hby own_d_prog_7_method_2_code_19) (n := 32) (by decide) (by decide) (by decide) (by decide)
  have Kp14 := Keep.ext Kp12 E14
  have ch15 : ∀ t, Steps p.tables e below (T14.setTop (mkF m 21 #[.val (.ref b), .val (.ref ow), .val (.ref ve), .val (.int (0 : Int32)), .val (.int (1 : Int32))] [(.ref ls14), (.ref ve), (.ref b)])) t → Steps p.tables e below (s₁.setTop (entryFrame m #[(.ref b), (.ref ow), (.ref ve), (.int (0 : Int32)), (.int (1 : Int32))] 5)) t := fun t k => ch13 t (by
      show Steps p.tables e below (T12.setTop (mkF m 17 #[.val (.ref b), .val (.ref ow), .val (.ref ve), .val (.int (0 : Int32)), .val (.int (1 : Int32))] [])) t
      refine XS.aloadN X12.here hx rfl (hb hby own_d_prog_7_method_2_code_17) rfl rfl ?_
      show Steps p.tables e below (T12.setTop (mkF m 18 #[.val (.ref b), .val (.ref ow), .val (.ref ve), .val (.int (0 : Int32)), .val (.int (1 : Int32))] [(.ref b)])) t
      refine XS.aloadN X12.here hx rfl (hb hby own_d_prog_7_method_2_code_18) rfl rfl ?_
      show Steps p.tables e below (T12.setTop (mkF m 19 #[.val (.ref b), .val (.ref ow), .val (.ref ve), .val (.int (0 : Int32)), .val (.int (1 : Int32))] [(.ref ve), (.ref b)])) t
      exact st14 t k)
  obtain ⟨vv16, _, ⟨T16, L16, kk16, nn16⟩, -, X16, ⟨Lc16, hQ16, l16, y16, z16⟩, st16⟩ := Jvm.LawKit.callS X14 hx (y := (⟨"java/util/Objects", "requireNonNull", "(Ljava/lang/Object;Ljava/lang/String;)Ljava/lang/Object;"⟩ : MethodName)) hown (mvT hZ (hw _ (List.mem_of_getElem? (i := 54) rfl))) (mvT hZ (hw _ (List.mem_of_getElem? (i := 55) rfl))) (mvT hZ (hw _ (List.mem_of_getElem? (i := 56) rfl))) (mvT hZ (hw _ (List.mem_of_getElem? (i := 57) rfl))) (by decide) (backOf (W := 1) (own_rnn l Z a0 hw [] hp14 n0 (Nat.le_trans Z0 Kp14.1) ve ls14) hZ (hw _ (List.mem_of_getElem? (i := 57) rfl)) (hw _ (List.mem_of_getElem? (i := 56) rfl)) (by decide) (by decide)) (g := (mkF m 21 #[.val (.ref b), .val (.ref ow), .val (.ref ve), .val (.int (0 : Int32)), .val (.int (1 : Int32))] [(.ref ls14), (.ref ve), (.ref b)])) rfl (by rw [hml]; rfl) (argsL := [(.ref ve), (.ref ls14)]) (rest := [(.ref b)]) (lenOf own_pd__Ljava_lang_Object_Ljava_lang_String__Ljava_lang_Object_ rfl) rfl (by show 2 * 0 + _ ≤ _; exact Nat.le_of_eq rfl) (hb hby own_d_prog_7_method_2_code_21) (fun _ _ => ⟨rfl, e14, (by decide : 4 + 0 ≤ _), (by decide : 60 + 0 ≤ _)⟩)
  dsimp only [Pt.U, Pt.locs, Pt.cells, Pt.slots] at X16 l16 y16 z16 st16 hQ16
  subst l16 y16 z16
  obtain ⟨rfl, Nq16, e16⟩ := hQ16
  have N16 := Fr.app N12 Nq16
  have ch17 : ∀ t, Steps p.tables e below (T16.setTop (mkF m 24 #[.val (.ref b), .val (.ref ow), .val (.ref ve), .val (.int (0 : Int32)), .val (.int (1 : Int32))] [(.ref ve), (.ref b)])) t → Steps p.tables e below (s₁.setTop (entryFrame m #[(.ref b), (.ref ow), (.ref ve), (.int (0 : Int32)), (.int (1 : Int32))] 5)) t := fun t k => ch15 t (by
      show Steps p.tables e below (T14.setTop (mkF m 21 #[.val (.ref b), .val (.ref ow), .val (.ref ve), .val (.int (0 : Int32)), .val (.int (1 : Int32))] [(.ref ls14), (.ref ve), (.ref b)])) t
      exact st16 t k)
  have cf18 := ((Exa.wr W12 (Ev.ext E3)).ext E14)
  obtain ⟨T19, X19, e19, st19⟩ := castY X16 hx hZ hown (hw _ (List.mem_of_getElem? (i := 58) rfl)) e16 (Ins.self cf18) (g := (mkF m 24 #[.val (.ref b), .val (.ref ow), .val (.ref ve), .val (.int (0 : Int32)), .val (.int (1 : Int32))] [(.ref ve), (.ref b)])) rfl rfl (hb hby own_d_prog_7_method_2_code_24)
  have ch20 : ∀ t, Steps p.tables e below (T19.setTop (mkF m 27 #[.val (.ref b), .val (.ref ow), .val (.ref ve), .val (.int (0 : Int32)), .val (.int (1 : Int32))] [(.ref ve), (.ref b)])) t → Steps p.tables e below (s₁.setTop (entryFrame m #[(.ref b), (.ref ow), (.ref ve), (.int (0 : Int32)), (.int (1 : Int32))] 5)) t := fun t k => ch17 t (by
      show Steps p.tables e below (T16.setTop (mkF m 24 #[.val (.ref b), .val (.ref ow), .val (.ref ve), .val (.int (0 : Int32)), .val (.int (1 : Int32))] [(.ref ve), (.ref b)])) t
      exact st19 t k)
  have cf21 := ((Fld.other W12 (F_verifier.ext E3) (Or.inr (slot_ne (Or.inr (hw _ (List.mem_of_getElem? (i := 63) rfl))) (Or.inr (hw _ (List.mem_of_getElem? (i := 60) rfl))) (by decide) (t := (.object "java/lang/String")) (t' := (.object "java/lang/String")) (by decide) (by decide)))).ext E14)
  have cf22 := ((Exa.wr W12 cf11).ext E14)
  obtain ⟨T23, hp23, X23, e23, W23, st23⟩ := putF X19 hx hZ hown (host := "") (Or.inl (hw _ (List.mem_of_getElem? (i := 62) rfl))) Via.refl e19 cf21 cf22 (Or.inr ⟨(hw _ (List.mem_of_getElem? (i := 63) rfl)), rfl, hnm⟩) (hw _ (List.mem_of_getElem? (i := 45) rfl)) (ty := (.object "java/lang/String")) (by decide) rfl rfl (g := (mkF m 27 #[.val (.ref b), .val (.ref ow), .val (.ref ve), .val (.int (0 : Int32)), .val (.int (1 : Int32))] [(.ref ve), (.ref b)])) rfl rfl (hb hby own_d_prog_7_method_2_code_27)
  have ch24 : ∀ t, Steps p.tables e below (T23.setTop (mkF m 30 #[.val (.ref b), .val (.ref ow), .val (.ref ve), .val (.int (0 : Int32)), .val (.int (1 : Int32))] [])) t → Steps p.tables e below (s₁.setTop (entryFrame m #[(.ref b), (.ref ow), (.ref ve), (.int (0 : Int32)), (.int (1 : Int32))] 5)) t := fun t k => ch20 t (by
      show Steps p.tables e below (T19.setTop (mkF m 27 #[.val (.ref b), .val (.ref ow), .val (.ref ve), .val (.int (0 : Int32)), .val (.int (1 : Int32))] [(.ref ve), (.ref b)])) t
      exact st23 t k)
  have Fw23 := Fld.same W23 cf21
  have hk := Nat.le_trans hk (Keep.of_wr W23).1
  have N23 := Fr.snoc X23 N16 g
  have Kp23 := Keep.wr Kp14 W23 (Or.inl (List.mem_of_getElem? (i := 0) rfl))
  have cf25 := (Fld.other W23 ((Fld.other W12 (F_locksRevoked.ext E3) (Or.inr (slot_ne (Or.inr (hw _ (List.mem_of_getElem? (i := 65) rfl))) (Or.inr (hw _ (List.mem_of_getElem? (i := 60) rfl))) (by decide) (t := .boolean) (t' := (.object "java/lang/String")) (by decide) (by decide)))).ext E14) (Or.inr (slot_ne (Or.inr (hw _ (List.mem_of_getElem? (i := 65) rfl))) (Or.inr (hw _ (List.mem_of_getElem? (i := 63) rfl))) (by decide) (t := .boolean) (t' := (.object "java/lang/String")) (by decide) (by decide))))
  have cf26 := (Exa.wr W23 cf22)
  obtain ⟨T27, hp27, X27, e27, W27, st27⟩ := putFN X23 hx hZ hown (hw _ (List.mem_of_getElem? (i := 64) rfl)) Via.refl e23 cf25 cf26 (Or.inr ⟨(hw _ (List.mem_of_getElem? (i := 65) rfl)), rfl, hnm⟩) (hw _ (List.mem_of_getElem? (i := 45) rfl)) (ty := .boolean) (v' := (.int (0 : Int32))) (by decide) (by first | rfl | decide) (by first | rfl | decide) (g := (mkF m 32 #[.val (.ref b), .val (.ref ow), .val (.ref ve), .val (.int (0 : Int32)), .val (.int (1 : Int32))] [(.int (0 : Int32)), (.ref b)])) rfl rfl (hb hby own_d_prog_7_method_2_code_32)
  have ch28 : ∀ t, Steps p.tables e below (T27.setTop (mkF m 35 #[.val (.ref b), .val (.ref ow), .val (.ref ve), .val (.int (0 : Int32)), .val (.int (1 : Int32))] [])) t → Steps p.tables e below (s₁.setTop (entryFrame m #[(.ref b), (.ref ow), (.ref ve), (.int (0 : Int32)), (.int (1 : Int32))] 5)) t := fun t k => ch24 t (by
      show Steps p.tables e below (T23.setTop (mkF m 30 #[.val (.ref b), .val (.ref ow), .val (.ref ve), .val (.int (0 : Int32)), .val (.int (1 : Int32))] [])) t
      refine XS.aloadN X23.here hx rfl (hb hby own_d_prog_7_method_2_code_30) rfl rfl ?_
      show Steps p.tables e below (T23.setTop (mkF m 31 #[.val (.ref b), .val (.ref ow), .val (.ref ve), .val (.int (0 : Int32)), .val (.int (1 : Int32))] [(.ref b)])) t
      refine XS.iloadN X23.here hx rfl (hb hby own_d_prog_7_method_2_code_31) rfl ?_
      show Steps p.tables e below (T23.setTop (mkF m 32 #[.val (.ref b), .val (.ref ow), .val (.ref ve), .val (.int (0 : Int32)), .val (.int (1 : Int32))] [(.int (0 : Int32)), (.ref b)])) t
      exact st27 t k)
  have Fw27 := Fld.same W27 cf25
  have hk := Nat.le_trans hk (Keep.of_wr W27).1
  have N27 := Fr.snoc X27 N23 g
  have Kp27 := Keep.wr Kp23 W27 (Or.inl (List.mem_of_getElem? (i := 0) rfl))
  have cf29 := (Fld.other W27 (Fld.other W23 ((Fld.other W12 (F_graceMissed.ext E3) (Or.inr (slot_ne (Or.inr (hw _ (List.mem_of_getElem? (i := 67) rfl))) (Or.inr (hw _ (List.mem_of_getElem? (i := 60) rfl))) (by decide) (t := .boolean) (t' := (.object "java/lang/String")) (by decide) (by decide)))).ext E14) (Or.inr (slot_ne (Or.inr (hw _ (List.mem_of_getElem? (i := 67) rfl))) (Or.inr (hw _ (List.mem_of_getElem? (i := 63) rfl))) (by decide) (t := .boolean) (t' := (.object "java/lang/String")) (by decide) (by decide)))) (Or.inr (slot_ne (Or.inr (hw _ (List.mem_of_getElem? (i := 67) rfl))) (Or.inr (hw _ (List.mem_of_getElem? (i := 65) rfl))) (by decide) (t := .boolean) (t' := .boolean) (by decide) (by decide))))
  have cf30 := (Exa.wr W27 cf26)
  obtain ⟨T31, hp31, X31, e31, W31, st31⟩ := putFN X27 hx hZ hown (hw _ (List.mem_of_getElem? (i := 66) rfl)) Via.refl e27 cf29 cf30 (Or.inr ⟨(hw _ (List.mem_of_getElem? (i := 67) rfl)), rfl, hnm⟩) (hw _ (List.mem_of_getElem? (i := 45) rfl)) (ty := .boolean) (v' := (.int (1 : Int32))) (by decide) (by first | rfl | decide) (by first | rfl | decide) (g := (mkF m 38 #[.val (.ref b), .val (.ref ow), .val (.ref ve), .val (.int (0 : Int32)), .val (.int (1 : Int32))] [(.int (1 : Int32)), (.ref b)])) rfl rfl (hb hby own_d_prog_7_method_2_code_38)
  have ch32 : ∀ t, Steps p.tables e below (T31.setTop (mkF m 41 #[.val (.ref b), .val (.ref ow), .val (.ref ve), .val (.int (0 : Int32)), .val (.int (1 : Int32))] [])) t → Steps p.tables e below (s₁.setTop (entryFrame m #[(.ref b), (.ref ow), (.ref ve), (.int (0 : Int32)), (.int (1 : Int32))] 5)) t := fun t k => ch28 t (by
      show Steps p.tables e below (T27.setTop (mkF m 35 #[.val (.ref b), .val (.ref ow), .val (.ref ve), .val (.int (0 : Int32)), .val (.int (1 : Int32))] [])) t
      refine XS.aloadN X27.here hx rfl (hb hby own_d_prog_7_method_2_code_35) rfl rfl ?_
      show Steps p.tables e below (T27.setTop (mkF m 36 #[.val (.ref b), .val (.ref ow), .val (.ref ve), .val (.int (0 : Int32)), .val (.int (1 : Int32))] [(.ref b)])) t
      refine XS.iload X27.here hx rfl (hb hby own_d_prog_7_method_2_code_36) rfl ?_
      show Steps p.tables e below (T27.setTop (mkF m 38 #[.val (.ref b), .val (.ref ow), .val (.ref ve), .val (.int (0 : Int32)), .val (.int (1 : Int32))] [(.int (1 : Int32)), (.ref b)])) t
      exact st31 t k)
  have Fw31 := Fld.same W31 cf29
  have hk := Nat.le_trans hk (Keep.of_wr W31).1
  have N31 := Fr.snoc X31 N27 g
  have Kp31 := Keep.wr Kp27 W31 (Or.inl (List.mem_of_getElem? (i := 0) rfl))
  have cf33 := (Exa.wr W31 cf30)
  have cf34 := (Fld.other W31 (Fld.other W27 (Fld.other W23 (Fw12.ext E14) (Or.inr (slot_ne (Or.inr (hw _ (List.mem_of_getElem? (i := 60) rfl))) (Or.inr (hw _ (List.mem_of_getElem? (i := 63) rfl))) (by decide) (t := (.object "java/lang/String")) (t' := (.object "java/lang/String")) (by decide) (by decide)))) (Or.inr (slot_ne (Or.inr (hw _ (List.mem_of_getElem? (i := 60) rfl))) (Or.inr (hw _ (List.mem_of_getElem? (i := 65) rfl))) (by decide) (t := (.object "java/lang/String")) (t' := .boolean) (by decide) (by decide)))) (Or.inr (slot_ne (Or.inr (hw _ (List.mem_of_getElem? (i := 60) rfl))) (Or.inr (hw _ (List.mem_of_getElem? (i := 67) rfl))) (by decide) (t := (.object "java/lang/String")) (t' := .boolean) (by decide) (by decide))))
  have cf35 := (Fld.other W31 (Fld.other W27 Fw23 (Or.inr (slot_ne (Or.inr (hw _ (List.mem_of_getElem? (i := 63) rfl))) (Or.inr (hw _ (List.mem_of_getElem? (i := 65) rfl))) (by decide) (t := (.object "java/lang/String")) (t' := .boolean) (by decide) (by decide)))) (Or.inr (slot_ne (Or.inr (hw _ (List.mem_of_getElem? (i := 63) rfl))) (Or.inr (hw _ (List.mem_of_getElem? (i := 67) rfl))) (by decide) (t := (.object "java/lang/String")) (t' := .boolean) (by decide) (by decide))))
  have cf36 := (Fld.other W31 Fw27 (Or.inr (slot_ne (Or.inr (hw _ (List.mem_of_getElem? (i := 65) rfl))) (Or.inr (hw _ (List.mem_of_getElem? (i := 67) rfl))) (by decide) (t := .boolean) (t' := .boolean) (by decide) (by decide))))
  obtain ⟨fs, hr, hrun, hended, hend⟩ := X31.leaveW hS (by rw [e31]; exact hk) (v := none) (fun _ => rfl)
  refine ⟨_, _, ch32 _ ?_, hrun, hended, _, _, rfl, ?_, hend.1, hend.2.1, hend.2.2.1, hend.2.2.2.mono (by decide) (by decide)⟩
  · show Steps p.tables e below (T31.setTop (mkF m 41 #[.val (.ref b), .val (.ref ow), .val (.ref ve), .val (.int (0 : Int32)), .val (.int (1 : Int32))] [])) _
    exact X31.returnOut hx Bd.returns (hb hby own_d_prog_7_method_2_code_41) hr
  · show QCi Z b ow ve (0 : Int32) (1 : Int32) h0 n0 _ T31.heap _
    rw [e31]
    exact ⟨rfl, N31, Kp31, cf33, cf34, cf35, cf36, Fw31⟩
theorem own_ef_own_ini_10 (m : MethodId) {x0 : Addr} {x1 : Addr} {x2 : Addr} {x3 : Int32} {x4 : Int32} : entryFrame m #[(.ref x0), (.ref x1), (.ref x2), (.int x3), (.int x4)] 5 = mkF m 0 #[.val (.ref x0), .val (.ref x1), .val (.ref x2), .val (.int x3), .val (.int x4)] [] := by first | (simp [entryFrame, mkF, argsToLocals, Value.category, maxLocals]; done) | rfl
set_option maxRecDepth 65536 in
set_option maxHeartbeats 40000000 in
theorem own_ini_10 (l : Launch) (Z : State) (a0 : Array Value) (hw : ∀ d ∈ tables_1, d.before a0 Z = true) (ws : List Jvm.Cond) (h0 : Heap) (n0 : Nat) (Z0 : n0 ≤ h0.size) (b ow ve : Addr) (E : Exa Z h0 b "com/example/nokkel/nokkel/core/ClientRecord") (F_owner : Fld Z h0 b "com/example/nokkel/nokkel/core/ClientRecord" "owner" "Ljava/lang/String;" .null) (F_verifier : Fld Z h0 b "com/example/nokkel/nokkel/core/ClientRecord" "verifier" "Ljava/lang/String;" .null) (F_locksRevoked : Fld Z h0 b "com/example/nokkel/nokkel/core/ClientRecord" "locksRevoked" "Z" (.int (0 : Int32))) (F_graceMissed : Fld Z h0 b "com/example/nokkel/nokkel/core/ClientRecord" "graceMissed" "Z" (.int (0 : Int32))) (g : n0 ≤ b) (Eo : Exa Z h0 ow "java/lang/String") (Ev : Exa Z h0 ve "java/lang/String") :
    MetFree l (⟨"com/example/nokkel/nokkel/core/ClientRecord", "<init>", "(Ljava/lang/String;Ljava/lang/String;ZZ)V"⟩ : MethodName) (head1 (Jvm.Cond.code (⟨"com/example/nokkel/nokkel/core/ClientRecord", "<init>", "(Ljava/lang/String;Ljava/lang/String;ZZ)V"⟩ : MethodName) prog_7_method_2_code 5 none :: ws) ({ frames := 1, cells := 4, slots := 60, locals := 14 } : Room)) (fun a U => a = #[(.ref b), (.ref ow), (.ref ve), (.int (1 : Int32)), (.int (0 : Int32))] ∧ Z.Warmed39 U.vm ∧ U.heap = h0) (fun _ _ _ _ _ => True) (fun _ U o U' => ∃ v L, o = .returned v ∧ QCi Z b ow ve (1 : Int32) (0 : Int32) h0 n0 v U'.heap L ∧ ReturnedEndW U o U' L ({ frames := 1, cells := 4, slots := 60, locals := 14 } : Room).cells ({ frames := 1, cells := 4, slots := 60, locals := 14 } : Room).slots) := by
  refine MetFree.of_bodySF (plainFor_of_name own_pn_com_example_nokkel_nokkel_core_ClientRecord) hisR ?_
  intro p e s m args below meth c s₁ Bd hml0 hP hK
  obtain ⟨rfl, hZ, hh⟩ := hP
  have hx := Bd.exec
  have hby := Bd.bytes
  have hml : c.maxLocals = 5 := hml0
  have hown : s.vm.findClass "com/example/nokkel/nokkel/core/ClientRecord" = some m.cls := findClass_of_methodNamed Bd.named
  have hnm := (name_of_methodNamed Bd.named Bd.method).1
  have X0 : Stand p l e ({ frames := 1, cells := 4, slots := 60, locals := 14 } : Room) (s.setVm s.vm) m #[(.ref b), (.ref ow), (.ref ve), (.int (1 : Int32)), (.int (0 : Int32))] below meth c s₁ [] 0 0 := Stand.of_body Bd
  have hZ : Z.Warmed39 (s.setVm s.vm).vm := hZ
  have hown : (s.setVm s.vm).vm.findClass "com/example/nokkel/nokkel/core/ClientRecord" = some m.cls := hown
  have hS : s.Since s.vm 0 := (State.WarmedH.refl s).since 0
  have hk : 0 ≤ h0.size := Nat.zero_le _
  have e0 : s₁.heap = h0 := by rw [← hh, Bd.state]; rfl
  have N0 := Fr.nil n0
  have pre0 : ∀ t, Steps p.tables e below (s₁.setTop (mkF m 0 #[.val (.ref b), .val (.ref ow), .val (.ref ve), .val (.int (1 : Int32)), .val (.int (0 : Int32))] [])) t → Steps p.tables e below (s₁.setTop (entryFrame m #[(.ref b), (.ref ow), (.ref ve), (.int (1 : Int32)), (.int (0 : Int32))] 5)) t := fun t k => castTop (own_ef_own_ini_10 m) k
  obtain ⟨T1, X1, e1, st1⟩ := initO X0 hx hZ hown (hw _ (List.mem_of_getElem? (i := 50) rfl)) (hw _ (List.mem_of_getElem? (i := 12) rfl)) (hw _ (List.mem_of_getElem? (i := 13) rfl)) e0 (g := (mkF m 1 #[.val (.ref b), .val (.ref ow), .val (.ref ve), .val (.int (1 : Int32)), .val (.int (0 : Int32))] [(.ref b)])) rfl (by rw [hml]; rfl) rfl (hb hby own_d_prog_7_method_2_code_1) (by decide) (W := 0) (by show 2 * 0 + _ ≤ _; exact Nat.le_of_eq rfl) (by decide)
  have ch2 : ∀ t, Steps p.tables e below (T1.setTop (mkF m 4 #[.val (.ref b), .val (.ref ow), .val (.ref ve), .val (.int (1 : Int32)), .val (.int (0 : Int32))] [])) t → Steps p.tables e below (s₁.setTop (entryFrame m #[(.ref b), (.ref ow), (.ref ve), (.int (1 : Int32)), (.int (0 : Int32))] 5)) t := fun t k => pre0 t (by
      show Steps p.tables e below (s₁.setTop (mkF m 0 #[.val (.ref b), .val (.ref ow), .val (.ref ve), .val (.int (1 : Int32)), .val (.int (0 : Int32))] [])) t
      refine XS.aloadN X0.here hx rfl (hb hby own_d_prog_7_method_2_code_0) rfl rfl ?_
      show Steps p.tables e below (s₁.setTop (mkF m 1 #[.val (.ref b), .val (.ref ow), .val (.ref ve), .val (.int (1 : Int32)), .val (.int (0 : Int32))] [(.ref b)])) t
      exact st1 t k)
  obtain ⟨ls3, T3, hp3, ks3, X3, e3, E3, hS, hk, hZ, hown, st3⟩ := ldcS X1 hx hZ hown (hw _ (List.mem_of_getElem? (i := 51) rfl)) (own_wS hw) e1 hS hk (g := (mkF m 6 #[.val (.ref b), .val (.ref ow), .val (.ref ve), .val (.int (1 : Int32)), .val (.int (0 : Int32))] [(.ref ow), (.ref b)])) rfl (hb hby own_d_prog_7_method_2_code_6) (n := 20) (by decide) (by decide) (by decide) (by decide)
  have Kp3 := Keep.ext (Keep.refl h0 [b]) E3
  have ch4 : ∀ t, Steps p.tables e below (T3.setTop (mkF m 8 #[.val (.ref b), .val (.ref ow), .val (.ref ve), .val (.int (1 : Int32)), .val (.int (0 : Int32))] [(.ref ls3), (.ref ow), (.ref b)])) t → Steps p.tables e below (s₁.setTop (entryFrame m #[(.ref b), (.ref ow), (.ref ve), (.int (1 : Int32)), (.int (0 : Int32))] 5)) t := fun t k => ch2 t (by
      show Steps p.tables e below (T1.setTop (mkF m 4 #[.val (.ref b), .val (.ref ow), .val (.ref ve), .val (.int (1 : Int32)), .val (.int (0 : Int32))] [])) t
      refine XS.aloadN X1.here hx rfl (hb hby own_d_prog_7_method_2_code_4) rfl rfl ?_
      show Steps p.tables e below (T1.setTop (mkF m 5 #[.val (.ref b), .val (.ref ow), .val (.ref ve), .val (.int (1 : Int32)), .val (.int (0 : Int32))] [(.ref b)])) t
      refine XS.aloadN X1.here hx rfl (hb hby own_d_prog_7_method_2_code_5) rfl rfl ?_
      show Steps p.tables e below (T1.setTop (mkF m 6 #[.val (.ref b), .val (.ref ow), .val (.ref ve), .val (.int (1 : Int32)), .val (.int (0 : Int32))] [(.ref ow), (.ref b)])) t
      exact st3 t k)
  obtain ⟨vv5, _, ⟨T5, L5, kk5, nn5⟩, -, X5, ⟨Lc5, hQ5, l5, y5, z5⟩, st5⟩ := Jvm.LawKit.callS X3 hx (y := (⟨"java/util/Objects", "requireNonNull", "(Ljava/lang/Object;Ljava/lang/String;)Ljava/lang/Object;"⟩ : MethodName)) hown (mvT hZ (hw _ (List.mem_of_getElem? (i := 54) rfl))) (mvT hZ (hw _ (List.mem_of_getElem? (i := 55) rfl))) (mvT hZ (hw _ (List.mem_of_getElem? (i := 56) rfl))) (mvT hZ (hw _ (List.mem_of_getElem? (i := 57) rfl))) (by decide) (backOf (W := 1) (own_rnn l Z a0 hw [] hp3 n0 (Nat.le_trans Z0 Kp3.1) ow ls3) hZ (hw _ (List.mem_of_getElem? (i := 57) rfl)) (hw _ (List.mem_of_getElem? (i := 56) rfl)) (by decide) (by decide)) (g := (mkF m 8 #[.val (.ref b), .val (.ref ow), .val (.ref ve), .val (.int (1 : Int32)), .val (.int (0 : Int32))] [(.ref ls3), (.ref ow), (.ref b)])) rfl (by rw [hml]; rfl) (argsL := [(.ref ow), (.ref ls3)]) (rest := [(.ref b)]) (lenOf own_pd__Ljava_lang_Object_Ljava_lang_String__Ljava_lang_Object_ rfl) rfl (by show 2 * 0 + _ ≤ _; exact Nat.le_of_eq rfl) (hb hby own_d_prog_7_method_2_code_8) (fun _ _ => ⟨rfl, e3, (by decide : 2 + 0 ≤ _), (by decide : 24 + 0 ≤ _)⟩)
  dsimp only [Pt.U, Pt.locs, Pt.cells, Pt.slots] at X5 l5 y5 z5 st5 hQ5
  subst l5 y5 z5
  obtain ⟨rfl, Nq5, e5⟩ := hQ5
  have N5 := Fr.app N0 Nq5
  have ch6 : ∀ t, Steps p.tables e below (T5.setTop (mkF m 11 #[.val (.ref b), .val (.ref ow), .val (.ref ve), .val (.int (1 : Int32)), .val (.int (0 : Int32))] [(.ref ow), (.ref b)])) t → Steps p.tables e below (s₁.setTop (entryFrame m #[(.ref b), (.ref ow), (.ref ve), (.int (1 : Int32)), (.int (0 : Int32))] 5)) t := fun t k => ch4 t (by
      show Steps p.tables e below (T3.setTop (mkF m 8 #[.val (.ref b), .val (.ref ow), .val (.ref ve), .val (.int (1 : Int32)), .val (.int (0 : Int32))] [(.ref ls3), (.ref ow), (.ref b)])) t
      exact st5 t k)
  have cf7 := (Eo.ext E3)
  obtain ⟨T8, X8, e8, st8⟩ := castY X5 hx hZ hown (hw _ (List.mem_of_getElem? (i := 58) rfl)) e5 (Ins.self cf7) (g := (mkF m 11 #[.val (.ref b), .val (.ref ow), .val (.ref ve), .val (.int (1 : Int32)), .val (.int (0 : Int32))] [(.ref ow), (.ref b)])) rfl rfl (hb hby own_d_prog_7_method_2_code_11)
  have ch9 : ∀ t, Steps p.tables e below (T8.setTop (mkF m 14 #[.val (.ref b), .val (.ref ow), .val (.ref ve), .val (.int (1 : Int32)), .val (.int (0 : Int32))] [(.ref ow), (.ref b)])) t → Steps p.tables e below (s₁.setTop (entryFrame m #[(.ref b), (.ref ow), (.ref ve), (.int (1 : Int32)), (.int (0 : Int32))] 5)) t := fun t k => ch6 t (by
      show Steps p.tables e below (T5.setTop (mkF m 11 #[.val (.ref b), .val (.ref ow), .val (.ref ve), .val (.int (1 : Int32)), .val (.int (0 : Int32))] [(.ref ow), (.ref b)])) t
      exact st8 t k)
  have cf10 := (F_owner.ext E3)
  have cf11 := (E.ext E3)
  obtain ⟨T12, hp12, X12, e12, W12, st12⟩ := putF X8 hx hZ hown (host := "") (Or.inl (hw _ (List.mem_of_getElem? (i := 59) rfl))) Via.refl e8 cf10 cf11 (Or.inr ⟨(hw _ (List.mem_of_getElem? (i := 60) rfl)), rfl, hnm⟩) (hw _ (List.mem_of_getElem? (i := 45) rfl)) (ty := (.object "java/lang/String")) (by decide) rfl rfl (g := (mkF m 14 #[.val (.ref b), .val (.ref ow), .val (.ref ve), .val (.int (1 : Int32)), .val (.int (0 : Int32))] [(.ref ow), (.ref b)])) rfl rfl (hb hby own_d_prog_7_method_2_code_14)
  have ch13 : ∀ t, Steps p.tables e below (T12.setTop (mkF m 17 #[.val (.ref b), .val (.ref ow), .val (.ref ve), .val (.int (1 : Int32)), .val (.int (0 : Int32))] [])) t → Steps p.tables e below (s₁.setTop (entryFrame m #[(.ref b), (.ref ow), (.ref ve), (.int (1 : Int32)), (.int (0 : Int32))] 5)) t := fun t k => ch9 t (by
      show Steps p.tables e below (T8.setTop (mkF m 14 #[.val (.ref b), .val (.ref ow), .val (.ref ve), .val (.int (1 : Int32)), .val (.int (0 : Int32))] [(.ref ow), (.ref b)])) t
      exact st12 t k)
  have Fw12 := Fld.same W12 cf10
  have hk := Nat.le_trans hk (Keep.of_wr W12).1
  have N12 := Fr.snoc X12 N5 g
  have Kp12 := Keep.wr Kp3 W12 (Or.inl (List.mem_of_getElem? (i := 0) rfl))
  obtain ⟨ls14, T14, hp14, ks14, X14, e14, E14, hS, hk, hZ, hown, st14⟩ := ldcS X12 hx hZ hown (hw _ (List.mem_of_getElem? (i := 61) rfl)) (own_wS hw) e12 hS hk (g := (mkF m 19 #[.val (.ref b), .val (.ref ow), .val (.ref ve), .val (.int (1 : Int32)), .val (.int (0 : Int32))] [(.ref ve), (.ref b)])) rfl (hb hby own_d_prog_7_method_2_code_19) (n := 32) (by decide) (by decide) (by decide) (by decide)
  have Kp14 := Keep.ext Kp12 E14
  have ch15 : ∀ t, Steps p.tables e below (T14.setTop (mkF m 21 #[.val (.ref b), .val (.ref ow), .val (.ref ve), .val (.int (1 : Int32)), .val (.int (0 : Int32))] [(.ref ls14), (.ref ve), (.ref b)])) t → Steps p.tables e below (s₁.setTop (entryFrame m #[(.ref b), (.ref ow), (.ref ve), (.int (1 : Int32)), (.int (0 : Int32))] 5)) t := fun t k => ch13 t (by
      show Steps p.tables e below (T12.setTop (mkF m 17 #[.val (.ref b), .val (.ref ow), .val (.ref ve), .val (.int (1 : Int32)), .val (.int (0 : Int32))] [])) t
      refine XS.aloadN X12.here hx rfl (hb hby own_d_prog_7_method_2_code_17) rfl rfl ?_
      show Steps p.tables e below (T12.setTop (mkF m 18 #[.val (.ref b), .val (.ref ow), .val (.ref ve), .val (.int (1 : Int32)), .val (.int (0 : Int32))] [(.ref b)])) t
      refine XS.aloadN X12.here hx rfl (hb hby own_d_prog_7_method_2_code_18) rfl rfl ?_
      show Steps p.tables e below (T12.setTop (mkF m 19 #[.val (.ref b), .val (.ref ow), .val (.ref ve), .val (.int (1 : Int32)), .val (.int (0 : Int32))] [(.ref ve), (.ref b)])) t
      exact st14 t k)
  obtain ⟨vv16, _, ⟨T16, L16, kk16, nn16⟩, -, X16, ⟨Lc16, hQ16, l16, y16, z16⟩, st16⟩ := Jvm.LawKit.callS X14 hx (y := (⟨"java/util/Objects", "requireNonNull", "(Ljava/lang/Object;Ljava/lang/String;)Ljava/lang/Object;"⟩ : MethodName)) hown (mvT hZ (hw _ (List.mem_of_getElem? (i := 54) rfl))) (mvT hZ (hw _ (List.mem_of_getElem? (i := 55) rfl))) (mvT hZ (hw _ (List.mem_of_getElem? (i := 56) rfl))) (mvT hZ (hw _ (List.mem_of_getElem? (i := 57) rfl))) (by decide) (backOf (W := 1) (own_rnn l Z a0 hw [] hp14 n0 (Nat.le_trans Z0 Kp14.1) ve ls14) hZ (hw _ (List.mem_of_getElem? (i := 57) rfl)) (hw _ (List.mem_of_getElem? (i := 56) rfl)) (by decide) (by decide)) (g := (mkF m 21 #[.val (.ref b), .val (.ref ow), .val (.ref ve), .val (.int (1 : Int32)), .val (.int (0 : Int32))] [(.ref ls14), (.ref ve), (.ref b)])) rfl (by rw [hml]; rfl) (argsL := [(.ref ve), (.ref ls14)]) (rest := [(.ref b)]) (lenOf own_pd__Ljava_lang_Object_Ljava_lang_String__Ljava_lang_Object_ rfl) rfl (by show 2 * 0 + _ ≤ _; exact Nat.le_of_eq rfl) (hb hby own_d_prog_7_method_2_code_21) (fun _ _ => ⟨rfl, e14, (by decide : 4 + 0 ≤ _), (by decide : 60 + 0 ≤ _)⟩)
  dsimp only [Pt.U, Pt.locs, Pt.cells, Pt.slots] at X16 l16 y16 z16 st16 hQ16
  subst l16 y16 z16
  obtain ⟨rfl, Nq16, e16⟩ := hQ16
  have N16 := Fr.app N12 Nq16
  have ch17 : ∀ t, Steps p.tables e below (T16.setTop (mkF m 24 #[.val (.ref b), .val (.ref ow), .val (.ref ve), .val (.int (1 : Int32)), .val (.int (0 : Int32))] [(.ref ve), (.ref b)])) t → Steps p.tables e below (s₁.setTop (entryFrame m #[(.ref b), (.ref ow), (.ref ve), (.int (1 : Int32)), (.int (0 : Int32))] 5)) t := fun t k => ch15 t (by
      show Steps p.tables e below (T14.setTop (mkF m 21 #[.val (.ref b), .val (.ref ow), .val (.ref ve), .val (.int (1 : Int32)), .val (.int (0 : Int32))] [(.ref ls14), (.ref ve), (.ref b)])) t
      exact st16 t k)
  have cf18 := ((Exa.wr W12 (Ev.ext E3)).ext E14)
  obtain ⟨T19, X19, e19, st19⟩ := castY X16 hx hZ hown (hw _ (List.mem_of_getElem? (i := 58) rfl)) e16 (Ins.self cf18) (g := (mkF m 24 #[.val (.ref b), .val (.ref ow), .val (.ref ve), .val (.int (1 : Int32)), .val (.int (0 : Int32))] [(.ref ve), (.ref b)])) rfl rfl (hb hby own_d_prog_7_method_2_code_24)
  have ch20 : ∀ t, Steps p.tables e below (T19.setTop (mkF m 27 #[.val (.ref b), .val (.ref ow), .val (.ref ve), .val (.int (1 : Int32)), .val (.int (0 : Int32))] [(.ref ve), (.ref b)])) t → Steps p.tables e below (s₁.setTop (entryFrame m #[(.ref b), (.ref ow), (.ref ve), (.int (1 : Int32)), (.int (0 : Int32))] 5)) t := fun t k => ch17 t (by
      show Steps p.tables e below (T16.setTop (mkF m 24 #[.val (.ref b), .val (.ref ow), .val (.ref ve), .val (.int (1 : Int32)), .val (.int (0 : Int32))] [(.ref ve), (.ref b)])) t
      exact st19 t k)
  have cf21 := ((Fld.other W12 (F_verifier.ext E3) (Or.inr (slot_ne (Or.inr (hw _ (List.mem_of_getElem? (i := 63) rfl))) (Or.inr (hw _ (List.mem_of_getElem? (i := 60) rfl))) (by decide) (t := (.object "java/lang/String")) (t' := (.object "java/lang/String")) (by decide) (by decide)))).ext E14)
  have cf22 := ((Exa.wr W12 cf11).ext E14)
  obtain ⟨T23, hp23, X23, e23, W23, st23⟩ := putF X19 hx hZ hown (host := "") (Or.inl (hw _ (List.mem_of_getElem? (i := 62) rfl))) Via.refl e19 cf21 cf22 (Or.inr ⟨(hw _ (List.mem_of_getElem? (i := 63) rfl)), rfl, hnm⟩) (hw _ (List.mem_of_getElem? (i := 45) rfl)) (ty := (.object "java/lang/String")) (by decide) rfl rfl (g := (mkF m 27 #[.val (.ref b), .val (.ref ow), .val (.ref ve), .val (.int (1 : Int32)), .val (.int (0 : Int32))] [(.ref ve), (.ref b)])) rfl rfl (hb hby own_d_prog_7_method_2_code_27)
  have ch24 : ∀ t, Steps p.tables e below (T23.setTop (mkF m 30 #[.val (.ref b), .val (.ref ow), .val (.ref ve), .val (.int (1 : Int32)), .val (.int (0 : Int32))] [])) t → Steps p.tables e below (s₁.setTop (entryFrame m #[(.ref b), (.ref ow), (.ref ve), (.int (1 : Int32)), (.int (0 : Int32))] 5)) t := fun t k => ch20 t (by
      show Steps p.tables e below (T19.setTop (mkF m 27 #[.val (.ref b), .val (.ref ow), .val (.ref ve), .val (.int (1 : Int32)), .val (.int (0 : Int32))] [(.ref ve), (.ref b)])) t
      exact st23 t k)
  have Fw23 := Fld.same W23 cf21
  have hk := Nat.le_trans hk (Keep.of_wr W23).1
  have N23 := Fr.snoc X23 N16 g
  have Kp23 := Keep.wr Kp14 W23 (Or.inl (List.mem_of_getElem? (i := 0) rfl))
  have cf25 := (Fld.other W23 ((Fld.other W12 (F_locksRevoked.ext E3) (Or.inr (slot_ne (Or.inr (hw _ (List.mem_of_getElem? (i := 65) rfl))) (Or.inr (hw _ (List.mem_of_getElem? (i := 60) rfl))) (by decide) (t := .boolean) (t' := (.object "java/lang/String")) (by decide) (by decide)))).ext E14) (Or.inr (slot_ne (Or.inr (hw _ (List.mem_of_getElem? (i := 65) rfl))) (Or.inr (hw _ (List.mem_of_getElem? (i := 63) rfl))) (by decide) (t := .boolean) (t' := (.object "java/lang/String")) (by decide) (by decide))))
  have cf26 := (Exa.wr W23 cf22)
  obtain ⟨T27, hp27, X27, e27, W27, st27⟩ := putFN X23 hx hZ hown (hw _ (List.mem_of_getElem? (i := 64) rfl)) Via.refl e23 cf25 cf26 (Or.inr ⟨(hw _ (List.mem_of_getElem? (i := 65) rfl)), rfl, hnm⟩) (hw _ (List.mem_of_getElem? (i := 45) rfl)) (ty := .boolean) (v' := (.int (1 : Int32))) (by decide) (by first | rfl | decide) (by first | rfl | decide) (g := (mkF m 32 #[.val (.ref b), .val (.ref ow), .val (.ref ve), .val (.int (1 : Int32)), .val (.int (0 : Int32))] [(.int (1 : Int32)), (.ref b)])) rfl rfl (hb hby own_d_prog_7_method_2_code_32)
  have ch28 : ∀ t, Steps p.tables e below (T27.setTop (mkF m 35 #[.val (.ref b), .val (.ref ow), .val (.ref ve), .val (.int (1 : Int32)), .val (.int (0 : Int32))] [])) t → Steps p.tables e below (s₁.setTop (entryFrame m #[(.ref b), (.ref ow), (.ref ve), (.int (1 : Int32)), (.int (0 : Int32))] 5)) t := fun t k => ch24 t (by
      show Steps p.tables e below (T23.setTop (mkF m 30 #[.val (.ref b), .val (.ref ow), .val (.ref ve), .val (.int (1 : Int32)), .val (.int (0 : Int32))] [])) t
      refine XS.aloadN X23.here hx rfl (hb hby own_d_prog_7_method_2_code_30) rfl rfl ?_
      show Steps p.tables e below (T23.setTop (mkF m 31 #[.val (.ref b), .val (.ref ow), .val (.ref ve), .val (.int (1 : Int32)), .val (.int (0 : Int32))] [(.ref b)])) t
      refine XS.iloadN X23.here hx rfl (hb hby own_d_prog_7_method_2_code_31) rfl ?_
      show Steps p.tables e below (T23.setTop (mkF m 32 #[.val (.ref b), .val (.ref ow), .val (.ref ve), .val (.int (1 : Int32)), .val (.int (0 : Int32))] [(.int (1 : Int32)), (.ref b)])) t
      exact st27 t k)
  have Fw27 := Fld.same W27 cf25
  have hk := Nat.le_trans hk (Keep.of_wr W27).1
  have N27 := Fr.snoc X27 N23 g
  have Kp27 := Keep.wr Kp23 W27 (Or.inl (List.mem_of_getElem? (i := 0) rfl))
  have cf29 := (Fld.other W27 (Fld.other W23 ((Fld.other W12 (F_graceMissed.ext E3) (Or.inr (slot_ne (Or.inr (hw _ (List.mem_of_getElem? (i := 67) rfl))) (Or.inr (hw _ (List.mem_of_getElem? (i := 60) rfl))) (by decide) (t := .boolean) (t' := (.object "java/lang/String")) (by decide) (by decide)))).ext E14) (Or.inr (slot_ne (Or.inr (hw _ (List.mem_of_getElem? (i := 67) rfl))) (Or.inr (hw _ (List.mem_of_getElem? (i := 63) rfl))) (by decide) (t := .boolean) (t' := (.object "java/lang/String")) (by decide) (by decide)))) (Or.inr (slot_ne (Or.inr (hw _ (List.mem_of_getElem? (i := 67) rfl))) (Or.inr (hw _ (List.mem_of_getElem? (i := 65) rfl))) (by decide) (t := .boolean) (t' := .boolean) (by decide) (by decide))))
  have cf30 := (Exa.wr W27 cf26)
  obtain ⟨T31, hp31, X31, e31, W31, st31⟩ := putFN X27 hx hZ hown (hw _ (List.mem_of_getElem? (i := 66) rfl)) Via.refl e27 cf29 cf30 (Or.inr ⟨(hw _ (List.mem_of_getElem? (i := 67) rfl)), rfl, hnm⟩) (hw _ (List.mem_of_getElem? (i := 45) rfl)) (ty := .boolean) (v' := (.int (0 : Int32))) (by decide) (by first | rfl | decide) (by first | rfl | decide) (g := (mkF m 38 #[.val (.ref b), .val (.ref ow), .val (.ref ve), .val (.int (1 : Int32)), .val (.int (0 : Int32))] [(.int (0 : Int32)), (.ref b)])) rfl rfl (hb hby own_d_prog_7_method_2_code_38)
  have ch32 : ∀ t, Steps p.tables e below (T31.setTop (mkF m 41 #[.val (.ref b), .val (.ref ow), .val (.ref ve), .val (.int (1 : Int32)), .val (.int (0 : Int32))] [])) t → Steps p.tables e below (s₁.setTop (entryFrame m #[(.ref b), (.ref ow), (.ref ve), (.int (1 : Int32)), (.int (0 : Int32))] 5)) t := fun t k => ch28 t (by
      show Steps p.tables e below (T27.setTop (mkF m 35 #[.val (.ref b), .val (.ref ow), .val (.ref ve), .val (.int (1 : Int32)), .val (.int (0 : Int32))] [])) t
      refine XS.aloadN X27.here hx rfl (hb hby own_d_prog_7_method_2_code_35) rfl rfl ?_
      show Steps p.tables e below (T27.setTop (mkF m 36 #[.val (.ref b), .val (.ref ow), .val (.ref ve), .val (.int (1 : Int32)), .val (.int (0 : Int32))] [(.ref b)])) t
      refine XS.iload X27.here hx rfl (hb hby own_d_prog_7_method_2_code_36) rfl ?_
      show Steps p.tables e below (T27.setTop (mkF m 38 #[.val (.ref b), .val (.ref ow), .val (.ref ve), .val (.int (1 : Int32)), .val (.int (0 : Int32))] [(.int (0 : Int32)), (.ref b)])) t
      exact st31 t k)
  have Fw31 := Fld.same W31 cf29
  have hk := Nat.le_trans hk (Keep.of_wr W31).1
  have N31 := Fr.snoc X31 N27 g
  have Kp31 := Keep.wr Kp27 W31 (Or.inl (List.mem_of_getElem? (i := 0) rfl))
  have cf33 := (Exa.wr W31 cf30)
  have cf34 := (Fld.other W31 (Fld.other W27 (Fld.other W23 (Fw12.ext E14) (Or.inr (slot_ne (Or.inr (hw _ (List.mem_of_getElem? (i := 60) rfl))) (Or.inr (hw _ (List.mem_of_getElem? (i := 63) rfl))) (by decide) (t := (.object "java/lang/String")) (t' := (.object "java/lang/String")) (by decide) (by decide)))) (Or.inr (slot_ne (Or.inr (hw _ (List.mem_of_getElem? (i := 60) rfl))) (Or.inr (hw _ (List.mem_of_getElem? (i := 65) rfl))) (by decide) (t := (.object "java/lang/String")) (t' := .boolean) (by decide) (by decide)))) (Or.inr (slot_ne (Or.inr (hw _ (List.mem_of_getElem? (i := 60) rfl))) (Or.inr (hw _ (List.mem_of_getElem? (i := 67) rfl))) (by decide) (t := (.object "java/lang/String")) (t' := .boolean) (by decide) (by decide))))
  have cf35 := (Fld.other W31 (Fld.other W27 Fw23 (Or.inr (slot_ne (Or.inr (hw _ (List.mem_of_getElem? (i := 63) rfl))) (Or.inr (hw _ (List.mem_of_getElem? (i := 65) rfl))) (by decide) (t := (.object "java/lang/String")) (t' := .boolean) (by decide) (by decide)))) (Or.inr (slot_ne (Or.inr (hw _ (List.mem_of_getElem? (i := 63) rfl))) (Or.inr (hw _ (List.mem_of_getElem? (i := 67) rfl))) (by decide) (t := (.object "java/lang/String")) (t' := .boolean) (by decide) (by decide))))
  have cf36 := (Fld.other W31 Fw27 (Or.inr (slot_ne (Or.inr (hw _ (List.mem_of_getElem? (i := 65) rfl))) (Or.inr (hw _ (List.mem_of_getElem? (i := 67) rfl))) (by decide) (t := .boolean) (t' := .boolean) (by decide) (by decide))))
  obtain ⟨fs, hr, hrun, hended, hend⟩ := X31.leaveW hS (by rw [e31]; exact hk) (v := none) (fun _ => rfl)
  refine ⟨_, _, ch32 _ ?_, hrun, hended, _, _, rfl, ?_, hend.1, hend.2.1, hend.2.2.1, hend.2.2.2.mono (by decide) (by decide)⟩
  · show Steps p.tables e below (T31.setTop (mkF m 41 #[.val (.ref b), .val (.ref ow), .val (.ref ve), .val (.int (1 : Int32)), .val (.int (0 : Int32))] [])) _
    exact X31.returnOut hx Bd.returns (hb hby own_d_prog_7_method_2_code_41) hr
  · show QCi Z b ow ve (1 : Int32) (0 : Int32) h0 n0 _ T31.heap _
    rw [e31]
    exact ⟨rfl, N31, Kp31, cf33, cf34, cf35, cf36, Fw31⟩
theorem own_ef_own_ini_11 (m : MethodId) {x0 : Addr} {x1 : Addr} {x2 : Addr} {x3 : Int32} {x4 : Int32} : entryFrame m #[(.ref x0), (.ref x1), (.ref x2), (.int x3), (.int x4)] 5 = mkF m 0 #[.val (.ref x0), .val (.ref x1), .val (.ref x2), .val (.int x3), .val (.int x4)] [] := by first | (simp [entryFrame, mkF, argsToLocals, Value.category, maxLocals]; done) | rfl
set_option maxRecDepth 65536 in
set_option maxHeartbeats 40000000 in
theorem own_ini_11 (l : Launch) (Z : State) (a0 : Array Value) (hw : ∀ d ∈ tables_1, d.before a0 Z = true) (ws : List Jvm.Cond) (h0 : Heap) (n0 : Nat) (Z0 : n0 ≤ h0.size) (b ow ve : Addr) (E : Exa Z h0 b "com/example/nokkel/nokkel/core/ClientRecord") (F_owner : Fld Z h0 b "com/example/nokkel/nokkel/core/ClientRecord" "owner" "Ljava/lang/String;" .null) (F_verifier : Fld Z h0 b "com/example/nokkel/nokkel/core/ClientRecord" "verifier" "Ljava/lang/String;" .null) (F_locksRevoked : Fld Z h0 b "com/example/nokkel/nokkel/core/ClientRecord" "locksRevoked" "Z" (.int (0 : Int32))) (F_graceMissed : Fld Z h0 b "com/example/nokkel/nokkel/core/ClientRecord" "graceMissed" "Z" (.int (0 : Int32))) (g : n0 ≤ b) (Eo : Exa Z h0 ow "java/lang/String") (Ev : Exa Z h0 ve "java/lang/String") :
    MetFree l (⟨"com/example/nokkel/nokkel/core/ClientRecord", "<init>", "(Ljava/lang/String;Ljava/lang/String;ZZ)V"⟩ : MethodName) (head1 (Jvm.Cond.code (⟨"com/example/nokkel/nokkel/core/ClientRecord", "<init>", "(Ljava/lang/String;Ljava/lang/String;ZZ)V"⟩ : MethodName) prog_7_method_2_code 5 none :: ws) ({ frames := 1, cells := 4, slots := 60, locals := 14 } : Room)) (fun a U => a = #[(.ref b), (.ref ow), (.ref ve), (.int (1 : Int32)), (.int (1 : Int32))] ∧ Z.Warmed39 U.vm ∧ U.heap = h0) (fun _ _ _ _ _ => True) (fun _ U o U' => ∃ v L, o = .returned v ∧ QCi Z b ow ve (1 : Int32) (1 : Int32) h0 n0 v U'.heap L ∧ ReturnedEndW U o U' L ({ frames := 1, cells := 4, slots := 60, locals := 14 } : Room).cells ({ frames := 1, cells := 4, slots := 60, locals := 14 } : Room).slots) := by
  refine MetFree.of_bodySF (plainFor_of_name own_pn_com_example_nokkel_nokkel_core_ClientRecord) hisR ?_
  intro p e s m args below meth c s₁ Bd hml0 hP hK
  obtain ⟨rfl, hZ, hh⟩ := hP
  have hx := Bd.exec
  have hby := Bd.bytes
  have hml : c.maxLocals = 5 := hml0
  have hown : s.vm.findClass "com/example/nokkel/nokkel/core/ClientRecord" = some m.cls := findClass_of_methodNamed Bd.named
  have hnm := (name_of_methodNamed Bd.named Bd.method).1
  have X0 : Stand p l e ({ frames := 1, cells := 4, slots := 60, locals := 14 } : Room) (s.setVm s.vm) m #[(.ref b), (.ref ow), (.ref ve), (.int (1 : Int32)), (.int (1 : Int32))] below meth c s₁ [] 0 0 := Stand.of_body Bd
  have hZ : Z.Warmed39 (s.setVm s.vm).vm := hZ
  have hown : (s.setVm s.vm).vm.findClass "com/example/nokkel/nokkel/core/ClientRecord" = some m.cls := hown
  have hS : s.Since s.vm 0 := (State.WarmedH.refl s).since 0
  have hk : 0 ≤ h0.size := Nat.zero_le _
  have e0 : s₁.heap = h0 := by rw [← hh, Bd.state]; rfl
  have N0 := Fr.nil n0
  have pre0 : ∀ t, Steps p.tables e below (s₁.setTop (mkF m 0 #[.val (.ref b), .val (.ref ow), .val (.ref ve), .val (.int (1 : Int32)), .val (.int (1 : Int32))] [])) t → Steps p.tables e below (s₁.setTop (entryFrame m #[(.ref b), (.ref ow), (.ref ve), (.int (1 : Int32)), (.int (1 : Int32))] 5)) t := fun t k => castTop (own_ef_own_ini_11 m) k
  obtain ⟨T1, X1, e1, st1⟩ := initO X0 hx hZ hown (hw _ (List.mem_of_getElem? (i := 50) rfl)) (hw _ (List.mem_of_getElem? (i := 12) rfl)) (hw _ (List.mem_of_getElem? (i := 13) rfl)) e0 (g := (mkF m 1 #[.val (.ref b), .val (.ref ow), .val (.ref ve), .val (.int (1 : Int32)), .val (.int (1 : Int32))] [(.ref b)])) rfl (by rw [hml]; rfl) rfl (hb hby own_d_prog_7_method_2_code_1) (by decide) (W := 0) (by show 2 * 0 + _ ≤ _; exact Nat.le_of_eq rfl) (by decide)
  have ch2 : ∀ t, Steps p.tables e below (T1.setTop (mkF m 4 #[.val (.ref b), .val (.ref ow), .val (.ref ve), .val (.int (1 : Int32)), .val (.int (1 : Int32))] [])) t → Steps p.tables e below (s₁.setTop (entryFrame m #[(.ref b), (.ref ow), (.ref ve), (.int (1 : Int32)), (.int (1 : Int32))] 5)) t := fun t k => pre0 t (by
      show Steps p.tables e below (s₁.setTop (mkF m 0 #[.val (.ref b), .val (.ref ow), .val (.ref ve), .val (.int (1 : Int32)), .val (.int (1 : Int32))] [])) t
      refine XS.aloadN X0.here hx rfl (hb hby own_d_prog_7_method_2_code_0) rfl rfl ?_
      show Steps p.tables e below (s₁.setTop (mkF m 1 #[.val (.ref b), .val (.ref ow), .val (.ref ve), .val (.int (1 : Int32)), .val (.int (1 : Int32))] [(.ref b)])) t
      exact st1 t k)
  obtain ⟨ls3, T3, hp3, ks3, X3, e3, E3, hS, hk, hZ, hown, st3⟩ := ldcS X1 hx hZ hown (hw _ (List.mem_of_getElem? (i := 51) rfl)) (own_wS hw) e1 hS hk (g := (mkF m 6 #[.val (.ref b), .val (.ref ow), .val (.ref ve), .val (.int (1 : Int32)), .val (.int (1 : Int32))] [(.ref ow), (.ref b)])) rfl (hb hby own_d_prog_7_method_2_code_6) (n := 20) (by decide) (by decide) (by decide) (by decide)
  have Kp3 := Keep.ext (Keep.refl h0 [b]) E3
  have ch4 : ∀ t, Steps p.tables e below (T3.setTop (mkF m 8 #[.val (.ref b), .val (.ref ow), .val (.ref ve), .val (.int (1 : Int32)), .val (.int (1 : Int32))] [(.ref ls3), (.ref ow), (.ref b)])) t → Steps p.tables e below (s₁.setTop (entryFrame m #[(.ref b), (.ref ow), (.ref ve), (.int (1 : Int32)), (.int (1 : Int32))] 5)) t := fun t k => ch2 t (by
      show Steps p.tables e below (T1.setTop (mkF m 4 #[.val (.ref b), .val (.ref ow), .val (.ref ve), .val (.int (1 : Int32)), .val (.int (1 : Int32))] [])) t
      refine XS.aloadN X1.here hx rfl (hb hby own_d_prog_7_method_2_code_4) rfl rfl ?_
      show Steps p.tables e below (T1.setTop (mkF m 5 #[.val (.ref b), .val (.ref ow), .val (.ref ve), .val (.int (1 : Int32)), .val (.int (1 : Int32))] [(.ref b)])) t
      refine XS.aloadN X1.here hx rfl (hb hby own_d_prog_7_method_2_code_5) rfl rfl ?_
      show Steps p.tables e below (T1.setTop (mkF m 6 #[.val (.ref b), .val (.ref ow), .val (.ref ve), .val (.int (1 : Int32)), .val (.int (1 : Int32))] [(.ref ow), (.ref b)])) t
      exact st3 t k)
  obtain ⟨vv5, _, ⟨T5, L5, kk5, nn5⟩, -, X5, ⟨Lc5, hQ5, l5, y5, z5⟩, st5⟩ := Jvm.LawKit.callS X3 hx (y := (⟨"java/util/Objects", "requireNonNull", "(Ljava/lang/Object;Ljava/lang/String;)Ljava/lang/Object;"⟩ : MethodName)) hown (mvT hZ (hw _ (List.mem_of_getElem? (i := 54) rfl))) (mvT hZ (hw _ (List.mem_of_getElem? (i := 55) rfl))) (mvT hZ (hw _ (List.mem_of_getElem? (i := 56) rfl))) (mvT hZ (hw _ (List.mem_of_getElem? (i := 57) rfl))) (by decide) (backOf (W := 1) (own_rnn l Z a0 hw [] hp3 n0 (Nat.le_trans Z0 Kp3.1) ow ls3) hZ (hw _ (List.mem_of_getElem? (i := 57) rfl)) (hw _ (List.mem_of_getElem? (i := 56) rfl)) (by decide) (by decide)) (g := (mkF m 8 #[.val (.ref b), .val (.ref ow), .val (.ref ve), .val (.int (1 : Int32)), .val (.int (1 : Int32))] [(.ref ls3), (.ref ow), (.ref b)])) rfl (by rw [hml]; rfl) (argsL := [(.ref ow), (.ref ls3)]) (rest := [(.ref b)]) (lenOf own_pd__Ljava_lang_Object_Ljava_lang_String__Ljava_lang_Object_ rfl) rfl (by show 2 * 0 + _ ≤ _; exact Nat.le_of_eq rfl) (hb hby own_d_prog_7_method_2_code_8) (fun _ _ => ⟨rfl, e3, (by decide : 2 + 0 ≤ _), (by decide : 24 + 0 ≤ _)⟩)
  dsimp only [Pt.U, Pt.locs, Pt.cells, Pt.slots] at X5 l5 y5 z5 st5 hQ5
  subst l5 y5 z5
  obtain ⟨rfl, Nq5, e5⟩ := hQ5
  have N5 := Fr.app N0 Nq5
  have ch6 : ∀ t, Steps p.tables e below (T5.setTop (mkF m 11 #[.val (.ref b), .val (.ref ow), .val (.ref ve), .val (.int (1 : Int32)), .val (.int (1 : Int32))] [(.ref ow), (.ref b)])) t → Steps p.tables e below (s₁.setTop (entryFrame m #[(.ref b), (.ref ow), (.ref ve), (.int (1 : Int32)), (.int (1 : Int32))] 5)) t := fun t k => ch4 t (by
      show Steps p.tables e below (T3.setTop (mkF m 8 #[.val (.ref b), .val (.ref ow), .val (.ref ve), .val (.int (1 : Int32)), .val (.int (1 : Int32))] [(.ref ls3), (.ref ow), (.ref b)])) t
      exact st5 t k)
  have cf7 := (Eo.ext E3)
  obtain ⟨T8, X8, e8, st8⟩ := castY X5 hx hZ hown (hw _ (List.mem_of_getElem? (i := 58) rfl)) e5 (Ins.self cf7) (g := (mkF m 11 #[.val (.ref b), .val (.ref ow), .val (.ref ve), .val (.int (1 : Int32)), .val (.int (1 : Int32))] [(.ref ow), (.ref b)])) rfl rfl (hb hby own_d_prog_7_method_2_code_11)
  have ch9 : ∀ t, Steps p.tables e below (T8.setTop (mkF m 14 #[.val (.ref b), .val (.ref ow), .val (.ref ve), .val (.int (1 : Int32)), .val (.int (1 : Int32))] [(.ref ow), (.ref b)])) t → Steps p.tables e below (s₁.setTop (entryFrame m #[(.ref b), (.ref ow), (.ref ve), (.int (1 : Int32)), (.int (1 : Int32))] 5)) t := fun t k => ch6 t (by
      show Steps p.tables e below (T5.setTop (mkF m 11 #[.val (.ref b), .val (.ref ow), .val (.ref ve), .val (.int (1 : Int32)), .val (.int (1 : Int32))] [(.ref ow), (.ref b)])) t
      exact st8 t k)
  have cf10 := (F_owner.ext E3)
  have cf11 := (E.ext E3)
  obtain ⟨T12, hp12, X12, e12, W12, st12⟩ := putF X8 hx hZ hown (host := "") (Or.inl (hw _ (List.mem_of_getElem? (i := 59) rfl))) Via.refl e8 cf10 cf11 (Or.inr ⟨(hw _ (List.mem_of_getElem? (i := 60) rfl)), rfl, hnm⟩) (hw _ (List.mem_of_getElem? (i := 45) rfl)) (ty := (.object "java/lang/String")) (by decide) rfl rfl (g := (mkF m 14 #[.val (.ref b), .val (.ref ow), .val (.ref ve), .val (.int (1 : Int32)), .val (.int (1 : Int32))] [(.ref ow), (.ref b)])) rfl rfl (hb hby own_d_prog_7_method_2_code_14)
  have ch13 : ∀ t, Steps p.tables e below (T12.setTop (mkF m 17 #[.val (.ref b), .val (.ref ow), .val (.ref ve), .val (.int (1 : Int32)), .val (.int (1 : Int32))] [])) t → Steps p.tables e below (s₁.setTop (entryFrame m #[(.ref b), (.ref ow), (.ref ve), (.int (1 : Int32)), (.int (1 : Int32))] 5)) t := fun t k => ch9 t (by
      show Steps p.tables e below (T8.setTop (mkF m 14 #[.val (.ref b), .val (.ref ow), .val (.ref ve), .val (.int (1 : Int32)), .val (.int (1 : Int32))] [(.ref ow), (.ref b)])) t
      exact st12 t k)
  have Fw12 := Fld.same W12 cf10
  have hk := Nat.le_trans hk (Keep.of_wr W12).1
  have N12 := Fr.snoc X12 N5 g
  have Kp12 := Keep.wr Kp3 W12 (Or.inl (List.mem_of_getElem? (i := 0) rfl))
  obtain ⟨ls14, T14, hp14, ks14, X14, e14, E14, hS, hk, hZ, hown, st14⟩ := ldcS X12 hx hZ hown (hw _ (List.mem_of_getElem? (i := 61) rfl)) (own_wS hw) e12 hS hk (g := (mkF m 19 #[.val (.ref b), .val (.ref ow), .val (.ref ve), .val (.int (1 : Int32)), .val (.int (1 : Int32))] [(.ref ve), (.ref b)])) rfl (hb hby own_d_prog_7_method_2_code_19) (n := 32) (by decide) (by decide) (by decide) (by decide)
  have Kp14 := Keep.ext Kp12 E14
  have ch15 : ∀ t, Steps p.tables e below (T14.setTop (mkF m 21 #[.val (.ref b), .val (.ref ow), .val (.ref ve), .val (.int (1 : Int32)), .val (.int (1 : Int32))] [(.ref ls14), (.ref ve), (.ref b)])) t → Steps p.tables e below (s₁.setTop (entryFrame m #[(.ref b), (.ref ow), (.ref ve), (.int (1 : Int32)), (.int (1 : Int32))] 5)) t := fun t k => ch13 t (by
      show Steps p.tables e below (T12.setTop (mkF m 17 #[.val (.ref b), .val (.ref ow), .val (.ref ve), .val (.int (1 : Int32)), .val (.int (1 : Int32))] [])) t
      refine XS.aloadN X12.here hx rfl (hb hby own_d_prog_7_method_2_code_17) rfl rfl ?_
      show Steps p.tables e below (T12.setTop (mkF m 18 #[.val (.ref b), .val (.ref ow), .val (.ref ve), .val (.int (1 : Int32)), .val (.int (1 : Int32))] [(.ref b)])) t
      refine XS.aloadN X12.here hx rfl (hb hby own_d_prog_7_method_2_code_18) rfl rfl ?_
      show Steps p.tables e below (T12.setTop (mkF m 19 #[.val (.ref b), .val (.ref ow), .val (.ref ve), .val (.int (1 : Int32)), .val (.int (1 : Int32))] [(.ref ve), (.ref b)])) t
      exact st14 t k)
  obtain ⟨vv16, _, ⟨T16, L16, kk16, nn16⟩, -, X16, ⟨Lc16, hQ16, l16, y16, z16⟩, st16⟩ := Jvm.LawKit.callS X14 hx (y := (⟨"java/util/Objects", "requireNonNull", "(Ljava/lang/Object;Ljava/lang/String;)Ljava/lang/Object;"⟩ : MethodName)) hown (mvT hZ (hw _ (List.mem_of_getElem? (i := 54) rfl))) (mvT hZ (hw _ (List.mem_of_getElem? (i := 55) rfl))) (mvT hZ (hw _ (List.mem_of_getElem? (i := 56) rfl))) (mvT hZ (hw _ (List.mem_of_getElem? (i := 57) rfl))) (by decide) (backOf (W := 1) (own_rnn l Z a0 hw [] hp14 n0 (Nat.le_trans Z0 Kp14.1) ve ls14) hZ (hw _ (List.mem_of_getElem? (i := 57) rfl)) (hw _ (List.mem_of_getElem? (i := 56) rfl)) (by decide) (by decide)) (g := (mkF m 21 #[.val (.ref b), .val (.ref ow), .val (.ref ve), .val (.int (1 : Int32)), .val (.int (1 : Int32))] [(.ref ls14), (.ref ve), (.ref b)])) rfl (by rw [hml]; rfl) (argsL := [(.ref ve), (.ref ls14)]) (rest := [(.ref b)]) (lenOf own_pd__Ljava_lang_Object_Ljava_lang_String__Ljava_lang_Object_ rfl) rfl (by show 2 * 0 + _ ≤ _; exact Nat.le_of_eq rfl) (hb hby own_d_prog_7_method_2_code_21) (fun _ _ => ⟨rfl, e14, (by decide : 4 + 0 ≤ _), (by decide : 60 + 0 ≤ _)⟩)
  dsimp only [Pt.U, Pt.locs, Pt.cells, Pt.slots] at X16 l16 y16 z16 st16 hQ16
  subst l16 y16 z16
  obtain ⟨rfl, Nq16, e16⟩ := hQ16
  have N16 := Fr.app N12 Nq16
  have ch17 : ∀ t, Steps p.tables e below (T16.setTop (mkF m 24 #[.val (.ref b), .val (.ref ow), .val (.ref ve), .val (.int (1 : Int32)), .val (.int (1 : Int32))] [(.ref ve), (.ref b)])) t → Steps p.tables e below (s₁.setTop (entryFrame m #[(.ref b), (.ref ow), (.ref ve), (.int (1 : Int32)), (.int (1 : Int32))] 5)) t := fun t k => ch15 t (by
      show Steps p.tables e below (T14.setTop (mkF m 21 #[.val (.ref b), .val (.ref ow), .val (.ref ve), .val (.int (1 : Int32)), .val (.int (1 : Int32))] [(.ref ls14), (.ref ve), (.ref b)])) t
      exact st16 t k)
  have cf18 := ((Exa.wr W12 (Ev.ext E3)).ext E14)
  obtain ⟨T19, X19, e19, st19⟩ := castY X16 hx hZ hown (hw _ (List.mem_of_getElem? (i := 58) rfl)) e16 (Ins.self cf18) (g := (mkF m 24 #[.val (.ref b), .val (.ref ow), .val (.ref ve), .val (.int (1 : Int32)), .val (.int (1 : Int32))] [(.ref ve), (.ref b)])) rfl rfl (hb hby own_d_prog_7_method_2_code_24)
  have ch20 : ∀ t, Steps p.tables e below (T19.setTop (mkF m 27 #[.val (.ref b), .val (.ref ow), .val (.ref ve), .val (.int (1 : Int32)), .val (.int (1 : Int32))] [(.ref ve), (.ref b)])) t → Steps p.tables e below (s₁.setTop (entryFrame m #[(.ref b), (.ref ow), (.ref ve), (.int (1 : Int32)), (.int (1 : Int32))] 5)) t := fun t k => ch17 t (by
      show Steps p.tables e below (T16.setTop (mkF m 24 #[.val (.ref b), .val (.ref ow), .val (.ref ve), .val (.int (1 : Int32)), .val (.int (1 : Int32))] [(.ref ve), (.ref b)])) t
      exact st19 t k)
  have cf21 := ((Fld.other W12 (F_verifier.ext E3) (Or.inr (slot_ne (Or.inr (hw _ (List.mem_of_getElem? (i := 63) rfl))) (Or.inr (hw _ (List.mem_of_getElem? (i := 60) rfl))) (by decide) (t := (.object "java/lang/String")) (t' := (.object "java/lang/String")) (by decide) (by decide)))).ext E14)
  have cf22 := ((Exa.wr W12 cf11).ext E14)
  obtain ⟨T23, hp23, X23, e23, W23, st23⟩ := putF X19 hx hZ hown (host := "") (Or.inl (hw _ (List.mem_of_getElem? (i := 62) rfl))) Via.refl e19 cf21 cf22 (Or.inr ⟨(hw _ (List.mem_of_getElem? (i := 63) rfl)), rfl, hnm⟩) (hw _ (List.mem_of_getElem? (i := 45) rfl)) (ty := (.object "java/lang/String")) (by decide) rfl rfl (g := (mkF m 27 #[.val (.ref b), .val (.ref ow), .val (.ref ve), .val (.int (1 : Int32)), .val (.int (1 : Int32))] [(.ref ve), (.ref b)])) rfl rfl (hb hby own_d_prog_7_method_2_code_27)
  have ch24 : ∀ t, Steps p.tables e below (T23.setTop (mkF m 30 #[.val (.ref b), .val (.ref ow), .val (.ref ve), .val (.int (1 : Int32)), .val (.int (1 : Int32))] [])) t → Steps p.tables e below (s₁.setTop (entryFrame m #[(.ref b), (.ref ow), (.ref ve), (.int (1 : Int32)), (.int (1 : Int32))] 5)) t := fun t k => ch20 t (by
      show Steps p.tables e below (T19.setTop (mkF m 27 #[.val (.ref b), .val (.ref ow), .val (.ref ve), .val (.int (1 : Int32)), .val (.int (1 : Int32))] [(.ref ve), (.ref b)])) t
      exact st23 t k)
  have Fw23 := Fld.same W23 cf21
  have hk := Nat.le_trans hk (Keep.of_wr W23).1
  have N23 := Fr.snoc X23 N16 g
  have Kp23 := Keep.wr Kp14 W23 (Or.inl (List.mem_of_getElem? (i := 0) rfl))
  have cf25 := (Fld.other W23 ((Fld.other W12 (F_locksRevoked.ext E3) (Or.inr (slot_ne (Or.inr (hw _ (List.mem_of_getElem? (i := 65) rfl))) (Or.inr (hw _ (List.mem_of_getElem? (i := 60) rfl))) (by decide) (t := .boolean) (t' := (.object "java/lang/String")) (by decide) (by decide)))).ext E14) (Or.inr (slot_ne (Or.inr (hw _ (List.mem_of_getElem? (i := 65) rfl))) (Or.inr (hw _ (List.mem_of_getElem? (i := 63) rfl))) (by decide) (t := .boolean) (t' := (.object "java/lang/String")) (by decide) (by decide))))
  have cf26 := (Exa.wr W23 cf22)
  obtain ⟨T27, hp27, X27, e27, W27, st27⟩ := putFN X23 hx hZ hown (hw _ (List.mem_of_getElem? (i := 64) rfl)) Via.refl e23 cf25 cf26 (Or.inr ⟨(hw _ (List.mem_of_getElem? (i := 65) rfl)), rfl, hnm⟩) (hw _ (List.mem_of_getElem? (i := 45) rfl)) (ty := .boolean) (v' := (.int (1 : Int32))) (by decide) (by first | rfl | decide) (by first | rfl | decide) (g := (mkF m 32 #[.val (.ref b), .val (.ref ow), .val (.ref ve), .val (.int (1 : Int32)), .val (.int (1 : Int32))] [(.int (1 : Int32)), (.ref b)])) rfl rfl (hb hby own_d_prog_7_method_2_code_32)
  have ch28 : ∀ t, Steps p.tables e below (T27.setTop (mkF m 35 #[.val (.ref b), .val (.ref ow), .val (.ref ve), .val (.int (1 : Int32)), .val (.int (1 : Int32))] [])) t → Steps p.tables e below (s₁.setTop (entryFrame m #[(.ref b), (.ref ow), (.ref ve), (.int (1 : Int32)), (.int (1 : Int32))] 5)) t := fun t k => ch24 t (by
      show Steps p.tables e below (T23.setTop (mkF m 30 #[.val (.ref b), .val (.ref ow), .val (.ref ve), .val (.int (1 : Int32)), .val (.int (1 : Int32))] [])) t
      refine XS.aloadN X23.here hx rfl (hb hby own_d_prog_7_method_2_code_30) rfl rfl ?_
      show Steps p.tables e below (T23.setTop (mkF m 31 #[.val (.ref b), .val (.ref ow), .val (.ref ve), .val (.int (1 : Int32)), .val (.int (1 : Int32))] [(.ref b)])) t
      refine XS.iloadN X23.here hx rfl (hb hby own_d_prog_7_method_2_code_31) rfl ?_
      show Steps p.tables e below (T23.setTop (mkF m 32 #[.val (.ref b), .val (.ref ow), .val (.ref ve), .val (.int (1 : Int32)), .val (.int (1 : Int32))] [(.int (1 : Int32)), (.ref b)])) t
      exact st27 t k)
  have Fw27 := Fld.same W27 cf25
  have hk := Nat.le_trans hk (Keep.of_wr W27).1
  have N27 := Fr.snoc X27 N23 g
  have Kp27 := Keep.wr Kp23 W27 (Or.inl (List.mem_of_getElem? (i := 0) rfl))
  have cf29 := (Fld.other W27 (Fld.other W23 ((Fld.other W12 (F_graceMissed.ext E3) (Or.inr (slot_ne (Or.inr (hw _ (List.mem_of_getElem? (i := 67) rfl))) (Or.inr (hw _ (List.mem_of_getElem? (i := 60) rfl))) (by decide) (t := .boolean) (t' := (.object "java/lang/String")) (by decide) (by decide)))).ext E14) (Or.inr (slot_ne (Or.inr (hw _ (List.mem_of_getElem? (i := 67) rfl))) (Or.inr (hw _ (List.mem_of_getElem? (i := 63) rfl))) (by decide) (t := .boolean) (t' := (.object "java/lang/String")) (by decide) (by decide)))) (Or.inr (slot_ne (Or.inr (hw _ (List.mem_of_getElem? (i := 67) rfl))) (Or.inr (hw _ (List.mem_of_getElem? (i := 65) rfl))) (by decide) (t := .boolean) (t' := .boolean) (by decide) (by decide))))
  have cf30 := (Exa.wr W27 cf26)
  obtain ⟨T31, hp31, X31, e31, W31, st31⟩ := putFN X27 hx hZ hown (hw _ (List.mem_of_getElem? (i := 66) rfl)) Via.refl e27 cf29 cf30 (Or.inr ⟨(hw _ (List.mem_of_getElem? (i := 67) rfl)), rfl, hnm⟩) (hw _ (List.mem_of_getElem? (i := 45) rfl)) (ty := .boolean) (v' := (.int (1 : Int32))) (by decide) (by first | rfl | decide) (by first | rfl | decide) (g := (mkF m 38 #[.val (.ref b), .val (.ref ow), .val (.ref ve), .val (.int (1 : Int32)), .val (.int (1 : Int32))] [(.int (1 : Int32)), (.ref b)])) rfl rfl (hb hby own_d_prog_7_method_2_code_38)
  have ch32 : ∀ t, Steps p.tables e below (T31.setTop (mkF m 41 #[.val (.ref b), .val (.ref ow), .val (.ref ve), .val (.int (1 : Int32)), .val (.int (1 : Int32))] [])) t → Steps p.tables e below (s₁.setTop (entryFrame m #[(.ref b), (.ref ow), (.ref ve), (.int (1 : Int32)), (.int (1 : Int32))] 5)) t := fun t k => ch28 t (by
      show Steps p.tables e below (T27.setTop (mkF m 35 #[.val (.ref b), .val (.ref ow), .val (.ref ve), .val (.int (1 : Int32)), .val (.int (1 : Int32))] [])) t
      refine XS.aloadN X27.here hx rfl (hb hby own_d_prog_7_method_2_code_35) rfl rfl ?_
      show Steps p.tables e below (T27.setTop (mkF m 36 #[.val (.ref b), .val (.ref ow), .val (.ref ve), .val (.int (1 : Int32)), .val (.int (1 : Int32))] [(.ref b)])) t
      refine XS.iload X27.here hx rfl (hb hby own_d_prog_7_method_2_code_36) rfl ?_
      show Steps p.tables e below (T27.setTop (mkF m 38 #[.val (.ref b), .val (.ref ow), .val (.ref ve), .val (.int (1 : Int32)), .val (.int (1 : Int32))] [(.int (1 : Int32)), (.ref b)])) t
      exact st31 t k)
  have Fw31 := Fld.same W31 cf29
  have hk := Nat.le_trans hk (Keep.of_wr W31).1
  have N31 := Fr.snoc X31 N27 g
  have Kp31 := Keep.wr Kp27 W31 (Or.inl (List.mem_of_getElem? (i := 0) rfl))
  have cf33 := (Exa.wr W31 cf30)
  have cf34 := (Fld.other W31 (Fld.other W27 (Fld.other W23 (Fw12.ext E14) (Or.inr (slot_ne (Or.inr (hw _ (List.mem_of_getElem? (i := 60) rfl))) (Or.inr (hw _ (List.mem_of_getElem? (i := 63) rfl))) (by decide) (t := (.object "java/lang/String")) (t' := (.object "java/lang/String")) (by decide) (by decide)))) (Or.inr (slot_ne (Or.inr (hw _ (List.mem_of_getElem? (i := 60) rfl))) (Or.inr (hw _ (List.mem_of_getElem? (i := 65) rfl))) (by decide) (t := (.object "java/lang/String")) (t' := .boolean) (by decide) (by decide)))) (Or.inr (slot_ne (Or.inr (hw _ (List.mem_of_getElem? (i := 60) rfl))) (Or.inr (hw _ (List.mem_of_getElem? (i := 67) rfl))) (by decide) (t := (.object "java/lang/String")) (t' := .boolean) (by decide) (by decide))))
  have cf35 := (Fld.other W31 (Fld.other W27 Fw23 (Or.inr (slot_ne (Or.inr (hw _ (List.mem_of_getElem? (i := 63) rfl))) (Or.inr (hw _ (List.mem_of_getElem? (i := 65) rfl))) (by decide) (t := (.object "java/lang/String")) (t' := .boolean) (by decide) (by decide)))) (Or.inr (slot_ne (Or.inr (hw _ (List.mem_of_getElem? (i := 63) rfl))) (Or.inr (hw _ (List.mem_of_getElem? (i := 67) rfl))) (by decide) (t := (.object "java/lang/String")) (t' := .boolean) (by decide) (by decide))))
  have cf36 := (Fld.other W31 Fw27 (Or.inr (slot_ne (Or.inr (hw _ (List.mem_of_getElem? (i := 65) rfl))) (Or.inr (hw _ (List.mem_of_getElem? (i := 67) rfl))) (by decide) (t := .boolean) (t' := .boolean) (by decide) (by decide))))
  obtain ⟨fs, hr, hrun, hended, hend⟩ := X31.leaveW hS (by rw [e31]; exact hk) (v := none) (fun _ => rfl)
  refine ⟨_, _, ch32 _ ?_, hrun, hended, _, _, rfl, ?_, hend.1, hend.2.1, hend.2.2.1, hend.2.2.2.mono (by decide) (by decide)⟩
  · show Steps p.tables e below (T31.setTop (mkF m 41 #[.val (.ref b), .val (.ref ow), .val (.ref ve), .val (.int (1 : Int32)), .val (.int (1 : Int32))] [])) _
    exact X31.returnOut hx Bd.returns (hb hby own_d_prog_7_method_2_code_41) hr
  · show QCi Z b ow ve (1 : Int32) (1 : Int32) h0 n0 _ T31.heap _
    rw [e31]
    exact ⟨rfl, N31, Kp31, cf33, cf34, cf35, cf36, Fw31⟩
theorem own_ef_own_mark_00 (m : MethodId) {x0 : Addr} : entryFrame m #[(.ref x0)] 1 = mkF m 0 #[.val (.ref x0)] [] := by first | (simp [entryFrame, mkF, argsToLocals, Value.category, maxLocals]; done) | rfl
set_option maxRecDepth 65536 in
set_option maxHeartbeats 40000000 in
theorem own_mark_00 (l : Launch) (Z : State) (a0 : Array Value) (hw : ∀ d ∈ tables_1, d.before a0 Z = true) (ws : List Jvm.Cond) (h0 : Heap) (n0 : Nat) (Z0 : n0 ≤ h0.size) (b ow ve : Addr) (F_owner : Fld Z h0 b "com/example/nokkel/nokkel/core/ClientRecord" "owner" "Ljava/lang/String;" (.ref ow)) (F_verifier : Fld Z h0 b "com/example/nokkel/nokkel/core/ClientRecord" "verifier" "Ljava/lang/String;" (.ref ve)) (F_locksRevoked : Fld Z h0 b "com/example/nokkel/nokkel/core/ClientRecord" "locksRevoked" "Z" (.int (0 : Int32))) (F_graceMissed : Fld Z h0 b "com/example/nokkel/nokkel/core/ClientRecord" "graceMissed" "Z" (.int (0 : Int32))) (Eo : Exa Z h0 ow "java/lang/String") (Ev : Exa Z h0 ve "java/lang/String") :
    MetFree l (⟨"com/example/nokkel/nokkel/core/ClientRecord", "isMarked", "()Z"⟩ : MethodName) (head1 (Jvm.Cond.code (⟨"com/example/nokkel/nokkel/core/ClientRecord", "isMarked", "()Z"⟩ : MethodName) prog_7_method_7_code 1 (some .boolean) :: ws) ({ frames := 0, cells := 0, slots := 0, locals := 0 } : Room)) (fun a U => a = #[(.ref b)] ∧ Z.Warmed39 U.vm ∧ U.heap = h0) (fun _ _ _ _ _ => True) (fun _ U o U' => ∃ v L, o = .returned v ∧ QV (some (.int (0 : Int32))) h0 n0 v U'.heap L ∧ FrameEnd U o U' L ({ frames := 0, cells := 0, slots := 0, locals := 0 } : Room).cells ({ frames := 0, cells := 0, slots := 0, locals := 0 } : Room).slots) := by
  refine MetFree.of_bodySF (plainFor_of_name own_pn_com_example_nokkel_nokkel_core_ClientRecord) hisR ?_
  intro p e s m args below meth c s₁ Bd hml0 hP hK
  obtain ⟨rfl, hZ, hh⟩ := hP
  have hx := Bd.exec
  have hby := Bd.bytes
  have hml : c.maxLocals = 1 := hml0
  have hown : s.vm.findClass "com/example/nokkel/nokkel/core/ClientRecord" = some m.cls := findClass_of_methodNamed Bd.named
  have hnm := (name_of_methodNamed Bd.named Bd.method).1
  have X0 : Stand p l e ({ frames := 0, cells := 0, slots := 0, locals := 0 } : Room) s m #[(.ref b)] below meth c s₁ [] 0 0 := Stand.of_body Bd
  have e0 : s₁.heap = h0 := by rw [← hh, Bd.state]; rfl
  have N0 := Fr.nil n0
  have pre0 : ∀ t, Steps p.tables e below (s₁.setTop (mkF m 0 #[.val (.ref b)] [])) t → Steps p.tables e below (s₁.setTop (entryFrame m #[(.ref b)] 1)) t := fun t k => castTop (own_ef_own_mark_00 m) k
  obtain ⟨T1, X1, e1, st1⟩ := getF X0 hx hZ hown (host := "") (Or.inl (hw _ (List.mem_of_getElem? (i := 64) rfl))) Via.refl e0 F_locksRevoked (g := (mkF m 1 #[.val (.ref b)] [(.ref b)])) rfl rfl (hb hby own_d_prog_7_method_7_code_1)
  have ch2 : ∀ t, Steps p.tables e below (T1.setTop (mkF m 4 #[.val (.ref b)] [(.int (0 : Int32))])) t → Steps p.tables e below (s₁.setTop (entryFrame m #[(.ref b)] 1)) t := fun t k => pre0 t (by
      show Steps p.tables e below (s₁.setTop (mkF m 0 #[.val (.ref b)] [])) t
      refine XS.aloadN X0.here hx rfl (hb hby own_d_prog_7_method_7_code_0) rfl rfl ?_
      show Steps p.tables e below (s₁.setTop (mkF m 1 #[.val (.ref b)] [(.ref b)])) t
      exact st1 t k)
  obtain ⟨T3, X3, e3, st3⟩ := getF X1 hx hZ hown (host := "") (Or.inl (hw _ (List.mem_of_getElem? (i := 66) rfl))) Via.refl e1 F_graceMissed (g := (mkF m 8 #[.val (.ref b)] [(.ref b)])) rfl rfl (hb hby own_d_prog_7_method_7_code_8)
  have ch4 : ∀ t, Steps p.tables e below (T3.setTop (mkF m 11 #[.val (.ref b)] [(.int (0 : Int32))])) t → Steps p.tables e below (s₁.setTop (entryFrame m #[(.ref b)] 1)) t := fun t k => ch2 t (by
      show Steps p.tables e below (T1.setTop (mkF m 4 #[.val (.ref b)] [(.int (0 : Int32))])) t
      refine XS.ifNo X1.here hx rfl (hb hby own_d_prog_7_method_7_code_4) rfl ((if0 _ _).trans (teq (by decide : (0 : Int32) = (0 : Int32))).2) ?_
      show Steps p.tables e below (T1.setTop (mkF m 7 #[.val (.ref b)] [])) t
      refine XS.aloadN X1.here hx rfl (hb hby own_d_prog_7_method_7_code_7) rfl rfl ?_
      show Steps p.tables e below (T1.setTop (mkF m 8 #[.val (.ref b)] [(.ref b)])) t
      exact st3 t k)
  have ch5 : ∀ t, Steps p.tables e below (T3.setTop (mkF m 19 #[.val (.ref b)] [(.int (0 : Int32))])) t → Steps p.tables e below (s₁.setTop (entryFrame m #[(.ref b)] 1)) t := fun t k => ch4 t (by
      show Steps p.tables e below (T3.setTop (mkF m 11 #[.val (.ref b)] [(.int (0 : Int32))])) t
      refine XS.ifYes X3.here hx rfl (pc0 := 11) (pc' := 18) rfl (hb hby own_d_prog_7_method_7_code_11) rfl ((if0 _ _).trans (teq (by decide : (0 : Int32) = (0 : Int32))).1) (by decide) (by decide) ?_
      show Steps p.tables e below (T3.setTop (mkF m 18 #[.val (.ref b)] [])) t
      refine XS.iconst X3.here hx rfl (hb hby own_d_prog_7_method_7_code_18) ?_
      exact k)
  obtain ⟨fs, hr, hrun, hended, hW, hsame⟩ := X3.leave (v := some (.int (0 : Int32))) (fun h => by rw [Bd.returns] at h; cases h)
  refine ⟨_, _, ch5 _ ?_, hrun, hended, _, _, rfl, ?_, ⟨_, rfl⟩, hW, hsame.mono (by decide) (by decide)⟩
  · show Steps p.tables e below (T3.setTop (mkF m 19 #[.val (.ref b)] [(.int (0 : Int32))])) _
    exact retN X3 hx (t := .boolean) Bd.returns (by simp) (hb hby own_d_prog_7_method_7_code_19) hr
  · show QV (some (.int (0 : Int32))) h0 n0 _ T3.heap _
    rw [e3]
    exact ⟨rfl, N0, rfl⟩
theorem own_ef_own_wlr_00 (m : MethodId) {x0 : Addr} {x1 : Int32} : entryFrame m #[(.ref x0), (.int x1)] 2 = mkF m 0 #[.val (.ref x0), .val (.int x1)] [] := by first | (simp [entryFrame, mkF, argsToLocals, Value.category, maxLocals]; done) | rfl
set_option maxRecDepth 65536 in
set_option maxHeartbeats 40000000 in
theorem own_wlr_00 (l : Launch) (Z : State) (a0 : Array Value) (hw : ∀ d ∈ tables_1, d.before a0 Z = true) (ws : List Jvm.Cond) (h0 : Heap) (n0 : Nat) (Z0 : n0 ≤ h0.size) (b ow ve : Addr) (F_owner : Fld Z h0 b "com/example/nokkel/nokkel/core/ClientRecord" "owner" "Ljava/lang/String;" (.ref ow)) (F_verifier : Fld Z h0 b "com/example/nokkel/nokkel/core/ClientRecord" "verifier" "Ljava/lang/String;" (.ref ve)) (F_locksRevoked : Fld Z h0 b "com/example/nokkel/nokkel/core/ClientRecord" "locksRevoked" "Z" (.int (0 : Int32))) (F_graceMissed : Fld Z h0 b "com/example/nokkel/nokkel/core/ClientRecord" "graceMissed" "Z" (.int (0 : Int32))) (Eo : Exa Z h0 ow "java/lang/String") (Ev : Exa Z h0 ve "java/lang/String") :
    MetFree l (⟨"com/example/nokkel/nokkel/core/ClientRecord", "withLocksRevoked", "(Z)Lcom/example/nokkel/nokkel/core/ClientRecord;"⟩ : MethodName) (head1 (Jvm.Cond.code (⟨"com/example/nokkel/nokkel/core/ClientRecord", "withLocksRevoked", "(Z)Lcom/example/nokkel/nokkel/core/ClientRecord;"⟩ : MethodName) prog_7_method_8_code 2 (some (.object "com/example/nokkel/nokkel/core/ClientRecord")) :: ws) ({ frames := 2, cells := 5, slots := 64, locals := 31 } : Room)) (fun a U => a = #[(.ref b), (.int (0 : Int32))] ∧ Z.Warmed39 U.vm ∧ U.heap = h0) (fun _ _ _ _ _ => True) (fun _ U o U' => ∃ v L, o = .returned v ∧ QCw Z ow ve (0 : Int32) (0 : Int32) h0 n0 v U'.heap L ∧ ReturnedEndW U o U' L ({ frames := 2, cells := 5, slots := 64, locals := 31 } : Room).cells ({ frames := 2, cells := 5, slots := 64, locals := 31 } : Room).slots) := by
  refine MetFree.of_bodySF (plainFor_of_name own_pn_com_example_nokkel_nokkel_core_ClientRecord) hisR ?_
  intro p e s m args below meth c s₁ Bd hml0 hP hK
  obtain ⟨rfl, hZ, hh⟩ := hP
  have hx := Bd.exec
  have hby := Bd.bytes
  have hml : c.maxLocals = 2 := hml0
  have hown : s.vm.findClass "com/example/nokkel/nokkel/core/ClientRecord" = some m.cls := findClass_of_methodNamed Bd.named
  have hnm := (name_of_methodNamed Bd.named Bd.method).1
  have X0 : Stand p l e ({ frames := 2, cells := 5, slots := 64, locals := 31 } : Room) (s.setVm s.vm) m #[(.ref b), (.int (0 : Int32))] below meth c s₁ [] 0 0 := Stand.of_body Bd
  have hZ : Z.Warmed39 (s.setVm s.vm).vm := hZ
  have hown : (s.setVm s.vm).vm.findClass "com/example/nokkel/nokkel/core/ClientRecord" = some m.cls := hown
  have hS : s.Since s.vm 0 := (State.WarmedH.refl s).since 0
  have hk : 0 ≤ h0.size := Nat.zero_le _
  have e0 : s₁.heap = h0 := by rw [← hh, Bd.state]; rfl
  have N0 := Fr.nil n0
  have pre0 : ∀ t, Steps p.tables e below (s₁.setTop (mkF m 0 #[.val (.ref b), .val (.int (0 : Int32))] [])) t → Steps p.tables e below (s₁.setTop (entryFrame m #[(.ref b), (.int (0 : Int32))] 2)) t := fun t k => castTop (own_ef_own_wlr_00 m) k
  obtain ⟨T1, hp1, X1, e1, E1, A1, D1, -, st1⟩ := newO X0 hx hZ hown (hw _ (List.mem_of_getElem? (i := 78) rfl)) (hw _ (List.mem_of_getElem? (i := 45) rfl)) (hw _ (List.mem_of_getElem? (i := 46) rfl)) e0 (g := (mkF m 0 #[.val (.ref b), .val (.int (0 : Int32))] [])) rfl (hb hby own_d_prog_7_method_8_code_0) (by decide) (by decide)
  obtain ⟨b1, g1⟩ : ∃ z, z = h0.size := ⟨_, rfl⟩
  rw [← g1] at A1 D1 st1
  have ne_ow_b1 : ow ≠ b1 := Nat.ne_of_lt (Nat.lt_of_lt_of_le Eo.lt (Nat.le_of_eq g1.symm))
  have ne_ve_b1 : ve ≠ b1 := Nat.ne_of_lt (Nat.lt_of_lt_of_le Ev.lt (Nat.le_of_eq g1.symm))
  have ne_b_b1 : b ≠ b1 := Nat.ne_of_lt (Nat.lt_of_lt_of_le F_owner.lt (Nat.le_of_eq g1.symm))
  have g_b1 : n0 ≤ b1 := Nat.le_trans (Nat.le_trans Z0 (Keep.refl h0 []).1) (Nat.le_of_eq g1.symm)
  have sz_b1 : h0.size ≤ b1 := Nat.le_trans (Keep.refl h0 []).1 (Nat.le_of_eq g1.symm)
  have hk := Nat.le_trans hk E1.1
  have Kp1 := Keep.ext (Keep.refl h0 []) E1
  have F1_60 : Fld Z hp1 b1 "com/example/nokkel/nokkel/core/ClientRecord" "owner" "Ljava/lang/String;" .null := D1 (Or.inr (hw _ (List.mem_of_getElem? (i := 60) rfl))) (ty := (.object "java/lang/String")) (by decide)
  have F1_63 : Fld Z hp1 b1 "com/example/nokkel/nokkel/core/ClientRecord" "verifier" "Ljava/lang/String;" .null := D1 (Or.inr (hw _ (List.mem_of_getElem? (i := 63) rfl))) (ty := (.object "java/lang/String")) (by decide)
  have F1_65 : Fld Z hp1 b1 "com/example/nokkel/nokkel/core/ClientRecord" "locksRevoked" "Z" (.int (0 : Int32)) := D1 (Or.inr (hw _ (List.mem_of_getElem? (i := 65) rfl))) (ty := .boolean) (by decide)
  have F1_67 : Fld Z hp1 b1 "com/example/nokkel/nokkel/core/ClientRecord" "graceMissed" "Z" (.int (0 : Int32)) := D1 (Or.inr (hw _ (List.mem_of_getElem? (i := 67) rfl))) (ty := .boolean) (by decide)
  have ch2 : ∀ t, Steps p.tables e below (T1.setTop (mkF m 3 #[.val (.ref b), .val (.int (0 : Int32))] [(.ref b1)])) t → Steps p.tables e below (s₁.setTop (entryFrame m #[(.ref b), (.int (0 : Int32))] 2)) t := fun t k => pre0 t (by
      show Steps p.tables e below (s₁.setTop (mkF m 0 #[.val (.ref b), .val (.int (0 : Int32))] [])) t
      exact st1 t k)
  have cf3 := (F_owner.keep Kp1 nin0)
  obtain ⟨T4, X4, e4, st4⟩ := getF X1 hx hZ hown (host := "") (Or.inl (hw _ (List.mem_of_getElem? (i := 59) rfl))) Via.refl e1 cf3 (g := (mkF m 5 #[.val (.ref b), .val (.int (0 : Int32))] [(.ref b), (.ref b1), (.ref b1)])) rfl rfl (hb hby own_d_prog_7_method_8_code_5)
  have ch5 : ∀ t, Steps p.tables e below (T4.setTop (mkF m 8 #[.val (.ref b), .val (.int (0 : Int32))] [(.ref ow), (.ref b1), (.ref b1)])) t → Steps p.tables e below (s₁.setTop (entryFrame m #[(.ref b), (.int (0 : Int32))] 2)) t := fun t k => ch2 t (by
      show Steps p.tables e below (T1.setTop (mkF m 3 #[.val (.ref b), .val (.int (0 : Int32))] [(.ref b1)])) t
      refine XS.dup X1.here hx rfl (hb hby own_d_prog_7_method_8_code_3) rfl rfl ?_
      show Steps p.tables e below (T1.setTop (mkF m 4 #[.val (.ref b), .val (.int (0 : Int32))] [(.ref b1), (.ref b1)])) t
      refine XS.aloadN X1.here hx rfl (hb hby own_d_prog_7_method_8_code_4) rfl rfl ?_
      show Steps p.tables e below (T1.setTop (mkF m 5 #[.val (.ref b), .val (.int (0 : Int32))] [(.ref b), (.ref b1), (.ref b1)])) t
      exact st4 t k)
  have cf6 := (F_verifier.keep Kp1 nin0)
  obtain ⟨T7, X7, e7, st7⟩ := getF X4 hx hZ hown (host := "") (Or.inl (hw _ (List.mem_of_getElem? (i := 62) rfl))) Via.refl e4 cf6 (g := (mkF m 9 #[.val (.ref b), .val (.int (0 : Int32))] [(.ref b), (.ref ow), (.ref b1), (.ref b1)])) rfl rfl (hb hby own_d_prog_7_method_8_code_9)
  have ch8 : ∀ t, Steps p.tables e below (T7.setTop (mkF m 12 #[.val (.ref b), .val (.int (0 : Int32))] [(.ref ve), (.ref ow), (.ref b1), (.ref b1)])) t → Steps p.tables e below (s₁.setTop (entryFrame m #[(.ref b), (.int (0 : Int32))] 2)) t := fun t k => ch5 t (by
      show Steps p.tables e below (T4.setTop (mkF m 8 #[.val (.ref b), .val (.int (0 : Int32))] [(.ref ow), (.ref b1), (.ref b1)])) t
      refine XS.aloadN X4.here hx rfl (hb hby own_d_prog_7_method_8_code_8) rfl rfl ?_
      show Steps p.tables e below (T4.setTop (mkF m 9 #[.val (.ref b), .val (.int (0 : Int32))] [(.ref b), (.ref ow), (.ref b1), (.ref b1)])) t
      exact st7 t k)
  have cf9 := (F_graceMissed.keep Kp1 nin0)
  obtain ⟨T10, X10, e10, st10⟩ := getF X7 hx hZ hown (host := "") (Or.inl (hw _ (List.mem_of_getElem? (i := 66) rfl))) Via.refl e7 cf9 (g := (mkF m 14 #[.val (.ref b), .val (.int (0 : Int32))] [(.ref b), (.int (0 : Int32)), (.ref ve), (.ref ow), (.ref b1), (.ref b1)])) rfl rfl (hb hby own_d_prog_7_method_8_code_14)
  have ch11 : ∀ t, Steps p.tables e below (T10.setTop (mkF m 17 #[.val (.ref b), .val (.int (0 : Int32))] [(.int (0 : Int32)), (.int (0 : Int32)), (.ref ve), (.ref ow), (.ref b1), (.ref b1)])) t → Steps p.tables e below (s₁.setTop (entryFrame m #[(.ref b), (.int (0 : Int32))] 2)) t := fun t k => ch8 t (by
      show Steps p.tables e below (T7.setTop (mkF m 12 #[.val (.ref b), .val (.int (0 : Int32))] [(.ref ve), (.ref ow), (.ref b1), (.ref b1)])) t
      refine XS.iloadN X7.here hx rfl (hb hby own_d_prog_7_method_8_code_12) rfl ?_
      show Steps p.tables e below (T7.setTop (mkF m 13 #[.val (.ref b), .val (.int (0 : Int32))] [(.int (0 : Int32)), (.ref ve), (.ref ow), (.ref b1), (.ref b1)])) t
      refine XS.aloadN X7.here hx rfl (hb hby own_d_prog_7_method_8_code_13) rfl rfl ?_
      show Steps p.tables e below (T7.setTop (mkF m 14 #[.val (.ref b), .val (.int (0 : Int32))] [(.ref b), (.int (0 : Int32)), (.ref ve), (.ref ow), (.ref b1), (.ref b1)])) t
      exact st10 t k)
  have cf12 := (Exa.keep Eo Kp1)
  have cf13 := (Exa.keep Ev Kp1)
  obtain ⟨vv14, _, ⟨T14, L14, kk14, nn14⟩, -, X14, hS2, hgr, ⟨Lc14, hQ14, l14, y14, z14⟩, st14⟩ := X10.specialBackS hx (y := (⟨"com/example/nokkel/nokkel/core/ClientRecord", "<init>", "(Ljava/lang/String;Ljava/lang/String;ZZ)V"⟩ : MethodName)) rfl hown (mvT hZ (hw _ (List.mem_of_getElem? (i := 79) rfl))) (mvT hZ (hw _ (List.mem_of_getElem? (i := 48) rfl))) (mvT hZ (hw _ (List.mem_of_getElem? (i := 49) rfl))) (by decide) (backOfS (W := 1) (own_ini_00 l Z a0 hw [] hp1 n0 (Nat.le_trans Z0 Kp1.1) b1 ow ve A1 F1_60 F1_63 F1_65 F1_67 g_b1 cf12 cf13) hZ (hw _ (List.mem_of_getElem? (i := 49) rfl)) (hw _ (List.mem_of_getElem? (i := 46) rfl)) (by decide) (by decide)) (g := (mkF m 17 #[.val (.ref b), .val (.int (0 : Int32))] [(.int (0 : Int32)), (.int (0 : Int32)), (.ref ve), (.ref ow), (.ref b1), (.ref b1)])) rfl (by rw [hml]; rfl) (Steps.refl _) (a := b1) (argsL := [(.ref ow), (.ref ve), (.int (0 : Int32)), (.int (0 : Int32))]) (rest := [(.ref b1)]) (lenOf own_pd__Ljava_lang_String_Ljava_lang_String_ZZ_V rfl) rfl (by show 2 * 0 + _ ≤ _; exact Nat.le_of_eq rfl) (hb hby own_d_prog_7_method_8_code_17) (fun _ _ => ⟨rfl, e10, (by decide : 1 + 4 ≤ _), (by decide : 4 + 60 ≤ _)⟩)
  dsimp only [Pt.U, Pt.locs, Pt.cells, Pt.slots] at X14 l14 y14 z14 st14 hQ14 hS2 hgr
  subst l14 y14 z14
  obtain ⟨X14, hS, hZ, hown⟩ := rebS hS (by rw [e10]; exact hk) X14 hS2 hgr hZ hown
  obtain ⟨hh14, eh14⟩ : ∃ h, T14.heap = h := ⟨_, rfl⟩
  rw [eh14] at hQ14
  rw [eh14] at hS
  have hk : hh14.size ≤ hh14.size := Nat.le_refl _
  obtain ⟨rfl, Nq14, Kq14, fq14_0, fq14_1, fq14_2, fq14_3, fq14_4⟩ := hQ14
  have N14 := Fr.app N0 Nq14
  have Kp14 := Keep.trans Kp1 Kq14 (allS (Or.inr sz_b1) all0)
  have ch15 : ∀ t, Steps p.tables e below (T14.setTop (mkF m 20 #[.val (.ref b), .val (.int (0 : Int32))] [(.ref b1)])) t → Steps p.tables e below (s₁.setTop (entryFrame m #[(.ref b), (.int (0 : Int32))] 2)) t := fun t k => ch11 t (by
      show Steps p.tables e below (T10.setTop (mkF m 17 #[.val (.ref b), .val (.int (0 : Int32))] [(.int (0 : Int32)), (.int (0 : Int32)), (.ref ve), (.ref ow), (.ref b1), (.ref b1)])) t
      exact st14.trans k)
  obtain ⟨fs, hr, hrun, hended, hend⟩ := X14.leaveW hS (by rw [eh14]; exact hk) (v := some (.ref b1)) (fun h => by rw [Bd.returns] at h; cases h)
  refine ⟨_, _, ch15 _ ?_, hrun, hended, _, _, rfl, ?_, hend.1, hend.2.1, hend.2.2.1, hend.2.2.2.mono (by decide) (by decide)⟩
  · show Steps p.tables e below (T14.setTop (mkF m 20 #[.val (.ref b), .val (.int (0 : Int32))] [(.ref b1)])) _
    jvm_step X14.here [X14.here.top, hx, (hb hby own_d_prog_7_method_8_code_20), X14.method', Bd.returns, Value.isRef, FieldType.isReference]
    first | (intro acts; rw [hr _ acts rfl rfl rfl]) | rw [hr _ _ rfl rfl rfl]
    exact Steps.refl _
  · show QCw Z ow ve (0 : Int32) (0 : Int32) h0 n0 _ T14.heap _
    rw [eh14]
    exact ⟨_, rfl, sz_b1, N14, Kp14, fq14_0, fq14_1, fq14_2, fq14_3, fq14_4⟩
theorem own_ef_own_wgm_00 (m : MethodId) {x0 : Addr} {x1 : Int32} : entryFrame m #[(.ref x0), (.int x1)] 2 = mkF m 0 #[.val (.ref x0), .val (.int x1)] [] := by first | (simp [entryFrame, mkF, argsToLocals, Value.category, maxLocals]; done) | rfl
set_option maxRecDepth 65536 in
set_option maxHeartbeats 40000000 in
theorem own_wgm_00 (l : Launch) (Z : State) (a0 : Array Value) (hw : ∀ d ∈ tables_1, d.before a0 Z = true) (ws : List Jvm.Cond) (h0 : Heap) (n0 : Nat) (Z0 : n0 ≤ h0.size) (b ow ve : Addr) (F_owner : Fld Z h0 b "com/example/nokkel/nokkel/core/ClientRecord" "owner" "Ljava/lang/String;" (.ref ow)) (F_verifier : Fld Z h0 b "com/example/nokkel/nokkel/core/ClientRecord" "verifier" "Ljava/lang/String;" (.ref ve)) (F_locksRevoked : Fld Z h0 b "com/example/nokkel/nokkel/core/ClientRecord" "locksRevoked" "Z" (.int (0 : Int32))) (F_graceMissed : Fld Z h0 b "com/example/nokkel/nokkel/core/ClientRecord" "graceMissed" "Z" (.int (0 : Int32))) (Eo : Exa Z h0 ow "java/lang/String") (Ev : Exa Z h0 ve "java/lang/String") :
    MetFree l (⟨"com/example/nokkel/nokkel/core/ClientRecord", "withGraceMissed", "(Z)Lcom/example/nokkel/nokkel/core/ClientRecord;"⟩ : MethodName) (head1 (Jvm.Cond.code (⟨"com/example/nokkel/nokkel/core/ClientRecord", "withGraceMissed", "(Z)Lcom/example/nokkel/nokkel/core/ClientRecord;"⟩ : MethodName) prog_7_method_9_code 2 (some (.object "com/example/nokkel/nokkel/core/ClientRecord")) :: ws) ({ frames := 2, cells := 5, slots := 64, locals := 31 } : Room)) (fun a U => a = #[(.ref b), (.int (0 : Int32))] ∧ Z.Warmed39 U.vm ∧ U.heap = h0) (fun _ _ _ _ _ => True) (fun _ U o U' => ∃ v L, o = .returned v ∧ QCw Z ow ve (0 : Int32) (0 : Int32) h0 n0 v U'.heap L ∧ ReturnedEndW U o U' L ({ frames := 2, cells := 5, slots := 64, locals := 31 } : Room).cells ({ frames := 2, cells := 5, slots := 64, locals := 31 } : Room).slots) := by
  refine MetFree.of_bodySF (plainFor_of_name own_pn_com_example_nokkel_nokkel_core_ClientRecord) hisR ?_
  intro p e s m args below meth c s₁ Bd hml0 hP hK
  obtain ⟨rfl, hZ, hh⟩ := hP
  have hx := Bd.exec
  have hby := Bd.bytes
  have hml : c.maxLocals = 2 := hml0
  have hown : s.vm.findClass "com/example/nokkel/nokkel/core/ClientRecord" = some m.cls := findClass_of_methodNamed Bd.named
  have hnm := (name_of_methodNamed Bd.named Bd.method).1
  have X0 : Stand p l e ({ frames := 2, cells := 5, slots := 64, locals := 31 } : Room) (s.setVm s.vm) m #[(.ref b), (.int (0 : Int32))] below meth c s₁ [] 0 0 := Stand.of_body Bd
  have hZ : Z.Warmed39 (s.setVm s.vm).vm := hZ
  have hown : (s.setVm s.vm).vm.findClass "com/example/nokkel/nokkel/core/ClientRecord" = some m.cls := hown
  have hS : s.Since s.vm 0 := (State.WarmedH.refl s).since 0
  have hk : 0 ≤ h0.size := Nat.zero_le _
  have e0 : s₁.heap = h0 := by rw [← hh, Bd.state]; rfl
  have N0 := Fr.nil n0
  have pre0 : ∀ t, Steps p.tables e below (s₁.setTop (mkF m 0 #[.val (.ref b), .val (.int (0 : Int32))] [])) t → Steps p.tables e below (s₁.setTop (entryFrame m #[(.ref b), (.int (0 : Int32))] 2)) t := fun t k => castTop (own_ef_own_wgm_00 m) k
  obtain ⟨T1, hp1, X1, e1, E1, A1, D1, -, st1⟩ := newO X0 hx hZ hown (hw _ (List.mem_of_getElem? (i := 78) rfl)) (hw _ (List.mem_of_getElem? (i := 45) rfl)) (hw _ (List.mem_of_getElem? (i := 46) rfl)) e0 (g := (mkF m 0 #[.val (.ref b), .val (.int (0 : Int32))] [])) rfl (hb hby own_d_prog_7_method_9_code_0) (by decide) (by decide)
  obtain ⟨b1, g1⟩ : ∃ z, z = h0.size := ⟨_, rfl⟩
  rw [← g1] at A1 D1 st1
  have ne_ow_b1 : ow ≠ b1 := Nat.ne_of_lt (Nat.lt_of_lt_of_le Eo.lt (Nat.le_of_eq g1.symm))
  have ne_ve_b1 : ve ≠ b1 := Nat.ne_of_lt (Nat.lt_of_lt_of_le Ev.lt (Nat.le_of_eq g1.symm))
  have ne_b_b1 : b ≠ b1 := Nat.ne_of_lt (Nat.lt_of_lt_of_le F_owner.lt (Nat.le_of_eq g1.symm))
  have g_b1 : n0 ≤ b1 := Nat.le_trans (Nat.le_trans Z0 (Keep.refl h0 []).1) (Nat.le_of_eq g1.symm)
  have sz_b1 : h0.size ≤ b1 := Nat.le_trans (Keep.refl h0 []).1 (Nat.le_of_eq g1.symm)
  have hk := Nat.le_trans hk E1.1
  have Kp1 := Keep.ext (Keep.refl h0 []) E1
  have F1_60 : Fld Z hp1 b1 "com/example/nokkel/nokkel/core/ClientRecord" "owner" "Ljava/lang/String;" .null := D1 (Or.inr (hw _ (List.mem_of_getElem? (i := 60) rfl))) (ty := (.object "java/lang/String")) (by decide)
  have F1_63 : Fld Z hp1 b1 "com/example/nokkel/nokkel/core/ClientRecord" "verifier" "Ljava/lang/String;" .null := D1 (Or.inr (hw _ (List.mem_of_getElem? (i := 63) rfl))) (ty := (.object "java/lang/String")) (by decide)
  have F1_65 : Fld Z hp1 b1 "com/example/nokkel/nokkel/core/ClientRecord" "locksRevoked" "Z" (.int (0 : Int32)) := D1 (Or.inr (hw _ (List.mem_of_getElem? (i := 65) rfl))) (ty := .boolean) (by decide)
  have F1_67 : Fld Z hp1 b1 "com/example/nokkel/nokkel/core/ClientRecord" "graceMissed" "Z" (.int (0 : Int32)) := D1 (Or.inr (hw _ (List.mem_of_getElem? (i := 67) rfl))) (ty := .boolean) (by decide)
  have ch2 : ∀ t, Steps p.tables e below (T1.setTop (mkF m 3 #[.val (.ref b), .val (.int (0 : Int32))] [(.ref b1)])) t → Steps p.tables e below (s₁.setTop (entryFrame m #[(.ref b), (.int (0 : Int32))] 2)) t := fun t k => pre0 t (by
      show Steps p.tables e below (s₁.setTop (mkF m 0 #[.val (.ref b), .val (.int (0 : Int32))] [])) t
      exact st1 t k)
  have cf3 := (F_owner.keep Kp1 nin0)
  obtain ⟨T4, X4, e4, st4⟩ := getF X1 hx hZ hown (host := "") (Or.inl (hw _ (List.mem_of_getElem? (i := 59) rfl))) Via.refl e1 cf3 (g := (mkF m 5 #[.val (.ref b), .val (.int (0 : Int32))] [(.ref b), (.ref b1), (.ref b1)])) rfl rfl (hb hby own_d_prog_7_method_9_code_5)
  have ch5 : ∀ t, Steps p.tables e below (T4.setTop (mkF m 8 #[.val (.ref b), .val (.int (0 : Int32))] [(.ref ow), (.ref b1), (.ref b1)])) t → Steps p.tables e below (s₁.setTop (entryFrame m #[(.ref b), (.int (0 : Int32))] 2)) t := fun t k => ch2 t (by
      show Steps p.tables e below (T1.setTop (mkF m 3 #[.val (.ref b), .val (.int (0 : Int32))] [(.ref b1)])) t
      refine XS.dup X1.here hx rfl (hb hby own_d_prog_7_method_9_code_3) rfl rfl ?_
      show Steps p.tables e below (T1.setTop (mkF m 4 #[.val (.ref b), .val (.int (0 : Int32))] [(.ref b1), (.ref b1)])) t
      refine XS.aloadN X1.here hx rfl (hb hby own_d_prog_7_method_9_code_4) rfl rfl ?_
      show Steps p.tables e below (T1.setTop (mkF m 5 #[.val (.ref b), .val (.int (0 : Int32))] [(.ref b), (.ref b1), (.ref b1)])) t
      exact st4 t k)
  have cf6 := (F_verifier.keep Kp1 nin0)
  obtain ⟨T7, X7, e7, st7⟩ := getF X4 hx hZ hown (host := "") (Or.inl (hw _ (List.mem_of_getElem? (i := 62) rfl))) Via.refl e4 cf6 (g := (mkF m 9 #[.val (.ref b), .val (.int (0 : Int32))] [(.ref b), (.ref ow), (.ref b1), (.ref b1)])) rfl rfl (hb hby own_d_prog_7_method_9_code_9)
  have ch8 : ∀ t, Steps p.tables e below (T7.setTop (mkF m 12 #[.val (.ref b), .val (.int (0 : Int32))] [(.ref ve), (.ref ow), (.ref b1), (.ref b1)])) t → Steps p.tables e below (s₁.setTop (entryFrame m #[(.ref b), (.int (0 : Int32))] 2)) t := fun t k => ch5 t (by
      show Steps p.tables e below (T4.setTop (mkF m 8 #[.val (.ref b), .val (.int (0 : Int32))] [(.ref ow), (.ref b1), (.ref b1)])) t
      refine XS.aloadN X4.here hx rfl (hb hby own_d_prog_7_method_9_code_8) rfl rfl ?_
      show Steps p.tables e below (T4.setTop (mkF m 9 #[.val (.ref b), .val (.int (0 : Int32))] [(.ref b), (.ref ow), (.ref b1), (.ref b1)])) t
      exact st7 t k)
  have cf9 := (F_locksRevoked.keep Kp1 nin0)
  obtain ⟨T10, X10, e10, st10⟩ := getF X7 hx hZ hown (host := "") (Or.inl (hw _ (List.mem_of_getElem? (i := 64) rfl))) Via.refl e7 cf9 (g := (mkF m 13 #[.val (.ref b), .val (.int (0 : Int32))] [(.ref b), (.ref ve), (.ref ow), (.ref b1), (.ref b1)])) rfl rfl (hb hby own_d_prog_7_method_9_code_13)
  have ch11 : ∀ t, Steps p.tables e below (T10.setTop (mkF m 16 #[.val (.ref b), .val (.int (0 : Int32))] [(.int (0 : Int32)), (.ref ve), (.ref ow), (.ref b1), (.ref b1)])) t → Steps p.tables e below (s₁.setTop (entryFrame m #[(.ref b), (.int (0 : Int32))] 2)) t := fun t k => ch8 t (by
      show Steps p.tables e below (T7.setTop (mkF m 12 #[.val (.ref b), .val (.int (0 : Int32))] [(.ref ve), (.ref ow), (.ref b1), (.ref b1)])) t
      refine XS.aloadN X7.here hx rfl (hb hby own_d_prog_7_method_9_code_12) rfl rfl ?_
      show Steps p.tables e below (T7.setTop (mkF m 13 #[.val (.ref b), .val (.int (0 : Int32))] [(.ref b), (.ref ve), (.ref ow), (.ref b1), (.ref b1)])) t
      exact st10 t k)
  have cf12 := (Exa.keep Eo Kp1)
  have cf13 := (Exa.keep Ev Kp1)
  obtain ⟨vv14, _, ⟨T14, L14, kk14, nn14⟩, -, X14, hS2, hgr, ⟨Lc14, hQ14, l14, y14, z14⟩, st14⟩ := X10.specialBackS hx (y := (⟨"com/example/nokkel/nokkel/core/ClientRecord", "<init>", "(Ljava/lang/String;Ljava/lang/String;ZZ)V"⟩ : MethodName)) rfl hown (mvT hZ (hw _ (List.mem_of_getElem? (i := 79) rfl))) (mvT hZ (hw _ (List.mem_of_getElem? (i := 48) rfl))) (mvT hZ (hw _ (List.mem_of_getElem? (i := 49) rfl))) (by decide) (backOfS (W := 1) (own_ini_00 l Z a0 hw [] hp1 n0 (Nat.le_trans Z0 Kp1.1) b1 ow ve A1 F1_60 F1_63 F1_65 F1_67 g_b1 cf12 cf13) hZ (hw _ (List.mem_of_getElem? (i := 49) rfl)) (hw _ (List.mem_of_getElem? (i := 46) rfl)) (by decide) (by decide)) (g := (mkF m 17 #[.val (.ref b), .val (.int (0 : Int32))] [(.int (0 : Int32)), (.int (0 : Int32)), (.ref ve), (.ref ow), (.ref b1), (.ref b1)])) rfl (by rw [hml]; rfl) (Steps.refl _) (a := b1) (argsL := [(.ref ow), (.ref ve), (.int (0 : Int32)), (.int (0 : Int32))]) (rest := [(.ref b1)]) (lenOf own_pd__Ljava_lang_String_Ljava_lang_String_ZZ_V rfl) rfl (by show 2 * 0 + _ ≤ _; exact Nat.le_of_eq rfl) (hb hby own_d_prog_7_method_9_code_17) (fun _ _ => ⟨rfl, e10, (by decide : 1 + 4 ≤ _), (by decide : 4 + 60 ≤ _)⟩)
  dsimp only [Pt.U, Pt.locs, Pt.cells, Pt.slots] at X14 l14 y14 z14 st14 hQ14 hS2 hgr
  subst l14 y14 z14
  obtain ⟨X14, hS, hZ, hown⟩ := rebS hS (by rw [e10]; exact hk) X14 hS2 hgr hZ hown
  obtain ⟨hh14, eh14⟩ : ∃ h, T14.heap = h := ⟨_, rfl⟩
  rw [eh14] at hQ14
  rw [eh14] at hS
  have hk : hh14.size ≤ hh14.size := Nat.le_refl _
  obtain ⟨rfl, Nq14, Kq14, fq14_0, fq14_1, fq14_2, fq14_3, fq14_4⟩ := hQ14
  have N14 := Fr.app N0 Nq14
  have Kp14 := Keep.trans Kp1 Kq14 (allS (Or.inr sz_b1) all0)
  have ch15 : ∀ t, Steps p.tables e below (T14.setTop (mkF m 20 #[.val (.ref b), .val (.int (0 : Int32))] [(.ref b1)])) t → Steps p.tables e below (s₁.setTop (entryFrame m #[(.ref b), (.int (0 : Int32))] 2)) t := fun t k => ch11 t (by
      show Steps p.tables e below (T10.setTop (mkF m 16 #[.val (.ref b), .val (.int (0 : Int32))] [(.int (0 : Int32)), (.ref ve), (.ref ow), (.ref b1), (.ref b1)])) t
      refine XS.iloadN X10.here hx rfl (hb hby own_d_prog_7_method_9_code_16) rfl ?_
      show Steps p.tables e below (T10.setTop (mkF m 17 #[.val (.ref b), .val (.int (0 : Int32))] [(.int (0 : Int32)), (.int (0 : Int32)), (.ref ve), (.ref ow), (.ref b1), (.ref b1)])) t
      exact st14.trans k)
  obtain ⟨fs, hr, hrun, hended, hend⟩ := X14.leaveW hS (by rw [eh14]; exact hk) (v := some (.ref b1)) (fun h => by rw [Bd.returns] at h; cases h)
  refine ⟨_, _, ch15 _ ?_, hrun, hended, _, _, rfl, ?_, hend.1, hend.2.1, hend.2.2.1, hend.2.2.2.mono (by decide) (by decide)⟩
  · show Steps p.tables e below (T14.setTop (mkF m 20 #[.val (.ref b), .val (.int (0 : Int32))] [(.ref b1)])) _
    jvm_step X14.here [X14.here.top, hx, (hb hby own_d_prog_7_method_9_code_20), X14.method', Bd.returns, Value.isRef, FieldType.isReference]
    first | (intro acts; rw [hr _ acts rfl rfl rfl]) | rw [hr _ _ rfl rfl rfl]
    exact Steps.refl _
  · show QCw Z ow ve (0 : Int32) (0 : Int32) h0 n0 _ T14.heap _
    rw [eh14]
    exact ⟨_, rfl, sz_b1, N14, Kp14, fq14_0, fq14_1, fq14_2, fq14_3, fq14_4⟩
theorem own_ef_own_mark_01 (m : MethodId) {x0 : Addr} : entryFrame m #[(.ref x0)] 1 = mkF m 0 #[.val (.ref x0)] [] := by first | (simp [entryFrame, mkF, argsToLocals, Value.category, maxLocals]; done) | rfl
set_option maxRecDepth 65536 in
set_option maxHeartbeats 40000000 in
theorem own_mark_01 (l : Launch) (Z : State) (a0 : Array Value) (hw : ∀ d ∈ tables_1, d.before a0 Z = true) (ws : List Jvm.Cond) (h0 : Heap) (n0 : Nat) (Z0 : n0 ≤ h0.size) (b ow ve : Addr) (F_owner : Fld Z h0 b "com/example/nokkel/nokkel/core/ClientRecord" "owner" "Ljava/lang/String;" (.ref ow)) (F_verifier : Fld Z h0 b "com/example/nokkel/nokkel/core/ClientRecord" "verifier" "Ljava/lang/String;" (.ref ve)) (F_locksRevoked : Fld Z h0 b "com/example/nokkel/nokkel/core/ClientRecord" "locksRevoked" "Z" (.int (0 : Int32))) (F_graceMissed : Fld Z h0 b "com/example/nokkel/nokkel/core/ClientRecord" "graceMissed" "Z" (.int (1 : Int32))) (Eo : Exa Z h0 ow "java/lang/String") (Ev : Exa Z h0 ve "java/lang/String") :
    MetFree l (⟨"com/example/nokkel/nokkel/core/ClientRecord", "isMarked", "()Z"⟩ : MethodName) (head1 (Jvm.Cond.code (⟨"com/example/nokkel/nokkel/core/ClientRecord", "isMarked", "()Z"⟩ : MethodName) prog_7_method_7_code 1 (some .boolean) :: ws) ({ frames := 0, cells := 0, slots := 0, locals := 0 } : Room)) (fun a U => a = #[(.ref b)] ∧ Z.Warmed39 U.vm ∧ U.heap = h0) (fun _ _ _ _ _ => True) (fun _ U o U' => ∃ v L, o = .returned v ∧ QV (some (.int (1 : Int32))) h0 n0 v U'.heap L ∧ FrameEnd U o U' L ({ frames := 0, cells := 0, slots := 0, locals := 0 } : Room).cells ({ frames := 0, cells := 0, slots := 0, locals := 0 } : Room).slots) := by
  refine MetFree.of_bodySF (plainFor_of_name own_pn_com_example_nokkel_nokkel_core_ClientRecord) hisR ?_
  intro p e s m args below meth c s₁ Bd hml0 hP hK
  obtain ⟨rfl, hZ, hh⟩ := hP
  have hx := Bd.exec
  have hby := Bd.bytes
  have hml : c.maxLocals = 1 := hml0
  have hown : s.vm.findClass "com/example/nokkel/nokkel/core/ClientRecord" = some m.cls := findClass_of_methodNamed Bd.named
  have hnm := (name_of_methodNamed Bd.named Bd.method).1
  have X0 : Stand p l e ({ frames := 0, cells := 0, slots := 0, locals := 0 } : Room) s m #[(.ref b)] below meth c s₁ [] 0 0 := Stand.of_body Bd
  have e0 : s₁.heap = h0 := by rw [← hh, Bd.state]; rfl
  have N0 := Fr.nil n0
  have pre0 : ∀ t, Steps p.tables e below (s₁.setTop (mkF m 0 #[.val (.ref b)] [])) t → Steps p.tables e below (s₁.setTop (entryFrame m #[(.ref b)] 1)) t := fun t k => castTop (own_ef_own_mark_01 m) k
  obtain ⟨T1, X1, e1, st1⟩ := getF X0 hx hZ hown (host := "") (Or.inl (hw _ (List.mem_of_getElem? (i := 64) rfl))) Via.refl e0 F_locksRevoked (g := (mkF m 1 #[.val (.ref b)] [(.ref b)])) rfl rfl (hb hby own_d_prog_7_method_7_code_1)
  have ch2 : ∀ t, Steps p.tables e below (T1.setTop (mkF m 4 #[.val (.ref b)] [(.int (0 : Int32))])) t → Steps p.tables e below (s₁.setTop (entryFrame m #[(.ref b)] 1)) t := fun t k => pre0 t (by
      show Steps p.tables e below (s₁.setTop (mkF m 0 #[.val (.ref b)] [])) t
      refine XS.aloadN X0.here hx rfl (hb hby own_d_prog_7_method_7_code_0) rfl rfl ?_
      show Steps p.tables e below (s₁.setTop (mkF m 1 #[.val (.ref b)] [(.ref b)])) t
      exact st1 t k)
  obtain ⟨T3, X3, e3, st3⟩ := getF X1 hx hZ hown (host := "") (Or.inl (hw _ (List.mem_of_getElem? (i := 66) rfl))) Via.refl e1 F_graceMissed (g := (mkF m 8 #[.val (.ref b)] [(.ref b)])) rfl rfl (hb hby own_d_prog_7_method_7_code_8)
  have ch4 : ∀ t, Steps p.tables e below (T3.setTop (mkF m 11 #[.val (.ref b)] [(.int (1 : Int32))])) t → Steps p.tables e below (s₁.setTop (entryFrame m #[(.ref b)] 1)) t := fun t k => ch2 t (by
      show Steps p.tables e below (T1.setTop (mkF m 4 #[.val (.ref b)] [(.int (0 : Int32))])) t
      refine XS.ifNo X1.here hx rfl (hb hby own_d_prog_7_method_7_code_4) rfl ((if0 _ _).trans (teq (by decide : (0 : Int32) = (0 : Int32))).2) ?_
      show Steps p.tables e below (T1.setTop (mkF m 7 #[.val (.ref b)] [])) t
      refine XS.aloadN X1.here hx rfl (hb hby own_d_prog_7_method_7_code_7) rfl rfl ?_
      show Steps p.tables e below (T1.setTop (mkF m 8 #[.val (.ref b)] [(.ref b)])) t
      exact st3 t k)
  have ch5 : ∀ t, Steps p.tables e below (T3.setTop (mkF m 19 #[.val (.ref b)] [(.int (1 : Int32))])) t → Steps p.tables e below (s₁.setTop (entryFrame m #[(.ref b)] 1)) t := fun t k => ch4 t (by
      show Steps p.tables e below (T3.setTop (mkF m 11 #[.val (.ref b)] [(.int (1 : Int32))])) t
      refine XS.ifNo X3.here hx rfl (hb hby own_d_prog_7_method_7_code_11) rfl ((if0 _ _).trans (feq (by decide : ¬ (1 : Int32) = (0 : Int32))).1) ?_
      show Steps p.tables e below (T3.setTop (mkF m 14 #[.val (.ref b)] [])) t
      refine XS.iconst X3.here hx rfl (hb hby own_d_prog_7_method_7_code_14) ?_
      show Steps p.tables e below (T3.setTop (mkF m 15 #[.val (.ref b)] [(.int (1 : Int32))])) t
      refine XS.goto X3.here hx rfl (pc0 := 15) (pc' := 19) rfl (hb hby own_d_prog_7_method_7_code_15) (by decide) (by decide) ?_
      exact k)
  obtain ⟨fs, hr, hrun, hended, hW, hsame⟩ := X3.leave (v := some (.int (1 : Int32))) (fun h => by rw [Bd.returns] at h; cases h)
  refine ⟨_, _, ch5 _ ?_, hrun, hended, _, _, rfl, ?_, ⟨_, rfl⟩, hW, hsame.mono (by decide) (by decide)⟩
  · show Steps p.tables e below (T3.setTop (mkF m 19 #[.val (.ref b)] [(.int (1 : Int32))])) _
    exact retN X3 hx (t := .boolean) Bd.returns (by simp) (hb hby own_d_prog_7_method_7_code_19) hr
  · show QV (some (.int (1 : Int32))) h0 n0 _ T3.heap _
    rw [e3]
    exact ⟨rfl, N0, rfl⟩
theorem own_ef_own_wlr_01 (m : MethodId) {x0 : Addr} {x1 : Int32} : entryFrame m #[(.ref x0), (.int x1)] 2 = mkF m 0 #[.val (.ref x0), .val (.int x1)] [] := by first | (simp [entryFrame, mkF, argsToLocals, Value.category, maxLocals]; done) | rfl
set_option maxRecDepth 65536 in
set_option maxHeartbeats 40000000 in
theorem own_wlr_01 (l : Launch) (Z : State) (a0 : Array Value) (hw : ∀ d ∈ tables_1, d.before a0 Z = true) (ws : List Jvm.Cond) (h0 : Heap) (n0 : Nat) (Z0 : n0 ≤ h0.size) (b ow ve : Addr) (F_owner : Fld Z h0 b "com/example/nokkel/nokkel/core/ClientRecord" "owner" "Ljava/lang/String;" (.ref ow)) (F_verifier : Fld Z h0 b "com/example/nokkel/nokkel/core/ClientRecord" "verifier" "Ljava/lang/String;" (.ref ve)) (F_locksRevoked : Fld Z h0 b "com/example/nokkel/nokkel/core/ClientRecord" "locksRevoked" "Z" (.int (0 : Int32))) (F_graceMissed : Fld Z h0 b "com/example/nokkel/nokkel/core/ClientRecord" "graceMissed" "Z" (.int (1 : Int32))) (Eo : Exa Z h0 ow "java/lang/String") (Ev : Exa Z h0 ve "java/lang/String") :
    MetFree l (⟨"com/example/nokkel/nokkel/core/ClientRecord", "withLocksRevoked", "(Z)Lcom/example/nokkel/nokkel/core/ClientRecord;"⟩ : MethodName) (head1 (Jvm.Cond.code (⟨"com/example/nokkel/nokkel/core/ClientRecord", "withLocksRevoked", "(Z)Lcom/example/nokkel/nokkel/core/ClientRecord;"⟩ : MethodName) prog_7_method_8_code 2 (some (.object "com/example/nokkel/nokkel/core/ClientRecord")) :: ws) ({ frames := 2, cells := 5, slots := 64, locals := 31 } : Room)) (fun a U => a = #[(.ref b), (.int (0 : Int32))] ∧ Z.Warmed39 U.vm ∧ U.heap = h0) (fun _ _ _ _ _ => True) (fun _ U o U' => ∃ v L, o = .returned v ∧ QCw Z ow ve (0 : Int32) (1 : Int32) h0 n0 v U'.heap L ∧ ReturnedEndW U o U' L ({ frames := 2, cells := 5, slots := 64, locals := 31 } : Room).cells ({ frames := 2, cells := 5, slots := 64, locals := 31 } : Room).slots) := by
  refine MetFree.of_bodySF (plainFor_of_name own_pn_com_example_nokkel_nokkel_core_ClientRecord) hisR ?_
  intro p e s m args below meth c s₁ Bd hml0 hP hK
  obtain ⟨rfl, hZ, hh⟩ := hP
  have hx := Bd.exec
  have hby := Bd.bytes
  have hml : c.maxLocals = 2 := hml0
  have hown : s.vm.findClass "com/example/nokkel/nokkel/core/ClientRecord" = some m.cls := findClass_of_methodNamed Bd.named
  have hnm := (name_of_methodNamed Bd.named Bd.method).1
  have X0 : Stand p l e ({ frames := 2, cells := 5, slots := 64, locals := 31 } : Room) (s.setVm s.vm) m #[(.ref b), (.int (0 : Int32))] below meth c s₁ [] 0 0 := Stand.of_body Bd
  have hZ : Z.Warmed39 (s.setVm s.vm).vm := hZ
  have hown : (s.setVm s.vm).vm.findClass "com/example/nokkel/nokkel/core/ClientRecord" = some m.cls := hown
  have hS : s.Since s.vm 0 := (State.WarmedH.refl s).since 0
  have hk : 0 ≤ h0.size := Nat.zero_le _
  have e0 : s₁.heap = h0 := by rw [← hh, Bd.state]; rfl
  have N0 := Fr.nil n0
  have pre0 : ∀ t, Steps p.tables e below (s₁.setTop (mkF m 0 #[.val (.ref b), .val (.int (0 : Int32))] [])) t → Steps p.tables e below (s₁.setTop (entryFrame m #[(.ref b), (.int (0 : Int32))] 2)) t := fun t k => castTop (own_ef_own_wlr_01 m) k
  obtain ⟨T1, hp1, X1, e1, E1, A1, D1, -, st1⟩ := newO X0 hx hZ hown (hw _ (List.mem_of_getElem? (i := 78) rfl)) (hw _ (List.mem_of_getElem? (i := 45) rfl)) (hw _ (List.mem_of_getElem? (i := 46) rfl)) e0 (g := (mkF m 0 #[.val (.ref b), .val (.int (0 : Int32))] [])) rfl (hb hby own_d_prog_7_method_8_code_0) (by decide) (by decide)
  obtain ⟨b1, g1⟩ : ∃ z, z = h0.size := ⟨_, rfl⟩
  rw [← g1] at A1 D1 st1
  have ne_ow_b1 : ow ≠ b1 := Nat.ne_of_lt (Nat.lt_of_lt_of_le Eo.lt (Nat.le_of_eq g1.symm))
  have ne_ve_b1 : ve ≠ b1 := Nat.ne_of_lt (Nat.lt_of_lt_of_le Ev.lt (Nat.le_of_eq g1.symm))
  have ne_b_b1 : b ≠ b1 := Nat.ne_of_lt (Nat.lt_of_lt_of_le F_owner.lt (Nat.le_of_eq g1.symm))
  have g_b1 : n0 ≤ b1 := Nat.le_trans (Nat.le_trans Z0 (Keep.refl h0 []).1) (Nat.le_of_eq g1.symm)
  have sz_b1 : h0.size ≤ b1 := Nat.le_trans (Keep.refl h0 []).1 (Nat.le_of_eq g1.symm)
  have hk := Nat.le_trans hk E1.1
  have Kp1 := Keep.ext (Keep.refl h0 []) E1
  have F1_60 : Fld Z hp1 b1 "com/example/nokkel/nokkel/core/ClientRecord" "owner" "Ljava/lang/String;" .null := D1 (Or.inr (hw _ (List.mem_of_getElem? (i := 60) rfl))) (ty := (.object "java/lang/String")) (by decide)
  have F1_63 : Fld Z hp1 b1 "com/example/nokkel/nokkel/core/ClientRecord" "verifier" "Ljava/lang/String;" .null := D1 (Or.inr (hw _ (List.mem_of_getElem? (i := 63) rfl))) (ty := (.object "java/lang/String")) (by decide)
  have F1_65 : Fld Z hp1 b1 "com/example/nokkel/nokkel/core/ClientRecord" "locksRevoked" "Z" (.int (0 : Int32)) := D1 (Or.inr (hw _ (List.mem_of_getElem? (i := 65) rfl))) (ty := .boolean) (by decide)
  have F1_67 : Fld Z hp1 b1 "com/example/nokkel/nokkel/core/ClientRecord" "graceMissed" "Z" (.int (0 : Int32)) := D1 (Or.inr (hw _ (List.mem_of_getElem? (i := 67) rfl))) (ty := .boolean) (by decide)
  have ch2 : ∀ t, Steps p.tables e below (T1.setTop (mkF m 3 #[.val (.ref b), .val (.int (0 : Int32))] [(.ref b1)])) t → Steps p.tables e below (s₁.setTop (entryFrame m #[(.ref b), (.int (0 : Int32))] 2)) t := fun t k => pre0 t (by
      show Steps p.tables e below (s₁.setTop (mkF m 0 #[.val (.ref b), .val (.int (0 : Int32))] [])) t
      exact st1 t k)
  have cf3 := (F_owner.keep Kp1 nin0)
  obtain ⟨T4, X4, e4, st4⟩ := getF X1 hx hZ hown (host := "") (Or.inl (hw _ (List.mem_of_getElem? (i := 59) rfl))) Via.refl e1 cf3 (g := (mkF m 5 #[.val (.ref b), .val (.int (0 : Int32))] [(.ref b), (.ref b1), (.ref b1)])) rfl rfl (hb hby own_d_prog_7_method_8_code_5)
  have ch5 : ∀ t, Steps p.tables e below (T4.setTop (mkF m 8 #[.val (.ref b), .val (.int (0 : Int32))] [(.ref ow), (.ref b1), (.ref b1)])) t → Steps p.tables e below (s₁.setTop (entryFrame m #[(.ref b), (.int (0 : Int32))] 2)) t := fun t k => ch2 t (by
      show Steps p.tables e below (T1.setTop (mkF m 3 #[.val (.ref b), .val (.int (0 : Int32))] [(.ref b1)])) t
      refine XS.dup X1.here hx rfl (hb hby own_d_prog_7_method_8_code_3) rfl rfl ?_
      show Steps p.tables e below (T1.setTop (mkF m 4 #[.val (.ref b), .val (.int (0 : Int32))] [(.ref b1), (.ref b1)])) t
      refine XS.aloadN X1.here hx rfl (hb hby own_d_prog_7_method_8_code_4) rfl rfl ?_
      show Steps p.tables e below (T1.setTop (mkF m 5 #[.val (.ref b), .val (.int (0 : Int32))] [(.ref b), (.ref b1), (.ref b1)])) t
      exact st4 t k)
  have cf6 := (F_verifier.keep Kp1 nin0)
  obtain ⟨T7, X7, e7, st7⟩ := getF X4 hx hZ hown (host := "") (Or.inl (hw _ (List.mem_of_getElem? (i := 62) rfl))) Via.refl e4 cf6 (g := (mkF m 9 #[.val (.ref b), .val (.int (0 : Int32))] [(.ref b), (.ref ow), (.ref b1), (.ref b1)])) rfl rfl (hb hby own_d_prog_7_method_8_code_9)
  have ch8 : ∀ t, Steps p.tables e below (T7.setTop (mkF m 12 #[.val (.ref b), .val (.int (0 : Int32))] [(.ref ve), (.ref ow), (.ref b1), (.ref b1)])) t → Steps p.tables e below (s₁.setTop (entryFrame m #[(.ref b), (.int (0 : Int32))] 2)) t := fun t k => ch5 t (by
      show Steps p.tables e below (T4.setTop (mkF m 8 #[.val (.ref b), .val (.int (0 : Int32))] [(.ref ow), (.ref b1), (.ref b1)])) t
      refine XS.aloadN X4.here hx rfl (hb hby own_d_prog_7_method_8_code_8) rfl rfl ?_
      show Steps p.tables e below (T4.setTop (mkF m 9 #[.val (.ref b), .val (.int (0 : Int32))] [(.ref b), (.ref ow), (.ref b1), (.ref b1)])) t
      exact st7 t k)
  have cf9 := (F_graceMissed.keep Kp1 nin0)
  obtain ⟨T10, X10, e10, st10⟩ := getF X7 hx hZ hown (host := "") (Or.inl (hw _ (List.mem_of_getElem? (i := 66) rfl))) Via.refl e7 cf9 (g := (mkF m 14 #[.val (.ref b), .val (.int (0 : Int32))] [(.ref b), (.int (0 : Int32)), (.ref ve), (.ref ow), (.ref b1), (.ref b1)])) rfl rfl (hb hby own_d_prog_7_method_8_code_14)
  have ch11 : ∀ t, Steps p.tables e below (T10.setTop (mkF m 17 #[.val (.ref b), .val (.int (0 : Int32))] [(.int (1 : Int32)), (.int (0 : Int32)), (.ref ve), (.ref ow), (.ref b1), (.ref b1)])) t → Steps p.tables e below (s₁.setTop (entryFrame m #[(.ref b), (.int (0 : Int32))] 2)) t := fun t k => ch8 t (by
      show Steps p.tables e below (T7.setTop (mkF m 12 #[.val (.ref b), .val (.int (0 : Int32))] [(.ref ve), (.ref ow), (.ref b1), (.ref b1)])) t
      refine XS.iloadN X7.here hx rfl (hb hby own_d_prog_7_method_8_code_12) rfl ?_
      show Steps p.tables e below (T7.setTop (mkF m 13 #[.val (.ref b), .val (.int (0 : Int32))] [(.int (0 : Int32)), (.ref ve), (.ref ow), (.ref b1), (.ref b1)])) t
      refine XS.aloadN X7.here hx rfl (hb hby own_d_prog_7_method_8_code_13) rfl rfl ?_
      show Steps p.tables e below (T7.setTop (mkF m 14 #[.val (.ref b), .val (.int (0 : Int32))] [(.ref b), (.int (0 : Int32)), (.ref ve), (.ref ow), (.ref b1), (.ref b1)])) t
      exact st10 t k)
  have cf12 := (Exa.keep Eo Kp1)
  have cf13 := (Exa.keep Ev Kp1)
  obtain ⟨vv14, _, ⟨T14, L14, kk14, nn14⟩, -, X14, hS2, hgr, ⟨Lc14, hQ14, l14, y14, z14⟩, st14⟩ := X10.specialBackS hx (y := (⟨"com/example/nokkel/nokkel/core/ClientRecord", "<init>", "(Ljava/lang/String;Ljava/lang/String;ZZ)V"⟩ : MethodName)) rfl hown (mvT hZ (hw _ (List.mem_of_getElem? (i := 79) rfl))) (mvT hZ (hw _ (List.mem_of_getElem? (i := 48) rfl))) (mvT hZ (hw _ (List.mem_of_getElem? (i := 49) rfl))) (by decide) (backOfS (W := 1) (own_ini_01 l Z a0 hw [] hp1 n0 (Nat.le_trans Z0 Kp1.1) b1 ow ve A1 F1_60 F1_63 F1_65 F1_67 g_b1 cf12 cf13) hZ (hw _ (List.mem_of_getElem? (i := 49) rfl)) (hw _ (List.mem_of_getElem? (i := 46) rfl)) (by decide) (by decide)) (g := (mkF m 17 #[.val (.ref b), .val (.int (0 : Int32))] [(.int (1 : Int32)), (.int (0 : Int32)), (.ref ve), (.ref ow), (.ref b1), (.ref b1)])) rfl (by rw [hml]; rfl) (Steps.refl _) (a := b1) (argsL := [(.ref ow), (.ref ve), (.int (0 : Int32)), (.int (1 : Int32))]) (rest := [(.ref b1)]) (lenOf own_pd__Ljava_lang_String_Ljava_lang_String_ZZ_V rfl) rfl (by show 2 * 0 + _ ≤ _; exact Nat.le_of_eq rfl) (hb hby own_d_prog_7_method_8_code_17) (fun _ _ => ⟨rfl, e10, (by decide : 1 + 4 ≤ _), (by decide : 4 + 60 ≤ _)⟩)
  dsimp only [Pt.U, Pt.locs, Pt.cells, Pt.slots] at X14 l14 y14 z14 st14 hQ14 hS2 hgr
  subst l14 y14 z14
  obtain ⟨X14, hS, hZ, hown⟩ := rebS hS (by rw [e10]; exact hk) X14 hS2 hgr hZ hown
  obtain ⟨hh14, eh14⟩ : ∃ h, T14.heap = h := ⟨_, rfl⟩
  rw [eh14] at hQ14
  rw [eh14] at hS
  have hk : hh14.size ≤ hh14.size := Nat.le_refl _
  obtain ⟨rfl, Nq14, Kq14, fq14_0, fq14_1, fq14_2, fq14_3, fq14_4⟩ := hQ14
  have N14 := Fr.app N0 Nq14
  have Kp14 := Keep.trans Kp1 Kq14 (allS (Or.inr sz_b1) all0)
  have ch15 : ∀ t, Steps p.tables e below (T14.setTop (mkF m 20 #[.val (.ref b), .val (.int (0 : Int32))] [(.ref b1)])) t → Steps p.tables e below (s₁.setTop (entryFrame m #[(.ref b), (.int (0 : Int32))] 2)) t := fun t k => ch11 t (by
      show Steps p.tables e below (T10.setTop (mkF m 17 #[.val (.ref b), .val (.int (0 : Int32))] [(.int (1 : Int32)), (.int (0 : Int32)), (.ref ve), (.ref ow), (.ref b1), (.ref b1)])) t
      exact st14.trans k)
  obtain ⟨fs, hr, hrun, hended, hend⟩ := X14.leaveW hS (by rw [eh14]; exact hk) (v := some (.ref b1)) (fun h => by rw [Bd.returns] at h; cases h)
  refine ⟨_, _, ch15 _ ?_, hrun, hended, _, _, rfl, ?_, hend.1, hend.2.1, hend.2.2.1, hend.2.2.2.mono (by decide) (by decide)⟩
  · show Steps p.tables e below (T14.setTop (mkF m 20 #[.val (.ref b), .val (.int (0 : Int32))] [(.ref b1)])) _
    jvm_step X14.here [X14.here.top, hx, (hb hby own_d_prog_7_method_8_code_20), X14.method', Bd.returns, Value.isRef, FieldType.isReference]
    first | (intro acts; rw [hr _ acts rfl rfl rfl]) | rw [hr _ _ rfl rfl rfl]
    exact Steps.refl _
  · show QCw Z ow ve (0 : Int32) (1 : Int32) h0 n0 _ T14.heap _
    rw [eh14]
    exact ⟨_, rfl, sz_b1, N14, Kp14, fq14_0, fq14_1, fq14_2, fq14_3, fq14_4⟩
theorem own_ef_own_wgm_01 (m : MethodId) {x0 : Addr} {x1 : Int32} : entryFrame m #[(.ref x0), (.int x1)] 2 = mkF m 0 #[.val (.ref x0), .val (.int x1)] [] := by first | (simp [entryFrame, mkF, argsToLocals, Value.category, maxLocals]; done) | rfl
set_option maxRecDepth 65536 in
set_option maxHeartbeats 40000000 in
theorem own_wgm_01 (l : Launch) (Z : State) (a0 : Array Value) (hw : ∀ d ∈ tables_1, d.before a0 Z = true) (ws : List Jvm.Cond) (h0 : Heap) (n0 : Nat) (Z0 : n0 ≤ h0.size) (b ow ve : Addr) (F_owner : Fld Z h0 b "com/example/nokkel/nokkel/core/ClientRecord" "owner" "Ljava/lang/String;" (.ref ow)) (F_verifier : Fld Z h0 b "com/example/nokkel/nokkel/core/ClientRecord" "verifier" "Ljava/lang/String;" (.ref ve)) (F_locksRevoked : Fld Z h0 b "com/example/nokkel/nokkel/core/ClientRecord" "locksRevoked" "Z" (.int (0 : Int32))) (F_graceMissed : Fld Z h0 b "com/example/nokkel/nokkel/core/ClientRecord" "graceMissed" "Z" (.int (1 : Int32))) (Eo : Exa Z h0 ow "java/lang/String") (Ev : Exa Z h0 ve "java/lang/String") :
    MetFree l (⟨"com/example/nokkel/nokkel/core/ClientRecord", "withGraceMissed", "(Z)Lcom/example/nokkel/nokkel/core/ClientRecord;"⟩ : MethodName) (head1 (Jvm.Cond.code (⟨"com/example/nokkel/nokkel/core/ClientRecord", "withGraceMissed", "(Z)Lcom/example/nokkel/nokkel/core/ClientRecord;"⟩ : MethodName) prog_7_method_9_code 2 (some (.object "com/example/nokkel/nokkel/core/ClientRecord")) :: ws) ({ frames := 2, cells := 5, slots := 64, locals := 31 } : Room)) (fun a U => a = #[(.ref b), (.int (0 : Int32))] ∧ Z.Warmed39 U.vm ∧ U.heap = h0) (fun _ _ _ _ _ => True) (fun _ U o U' => ∃ v L, o = .returned v ∧ QCw Z ow ve (0 : Int32) (0 : Int32) h0 n0 v U'.heap L ∧ ReturnedEndW U o U' L ({ frames := 2, cells := 5, slots := 64, locals := 31 } : Room).cells ({ frames := 2, cells := 5, slots := 64, locals := 31 } : Room).slots) := by
  refine MetFree.of_bodySF (plainFor_of_name own_pn_com_example_nokkel_nokkel_core_ClientRecord) hisR ?_
  intro p e s m args below meth c s₁ Bd hml0 hP hK
  obtain ⟨rfl, hZ, hh⟩ := hP
  have hx := Bd.exec
  have hby := Bd.bytes
  have hml : c.maxLocals = 2 := hml0
  have hown : s.vm.findClass "com/example/nokkel/nokkel/core/ClientRecord" = some m.cls := findClass_of_methodNamed Bd.named
  have hnm := (name_of_methodNamed Bd.named Bd.method).1
  have X0 : Stand p l e ({ frames := 2, cells := 5, slots := 64, locals := 31 } : Room) (s.setVm s.vm) m #[(.ref b), (.int (0 : Int32))] below meth c s₁ [] 0 0 := Stand.of_body Bd
  have hZ : Z.Warmed39 (s.setVm s.vm).vm := hZ
  have hown : (s.setVm s.vm).vm.findClass "com/example/nokkel/nokkel/core/ClientRecord" = some m.cls := hown
  have hS : s.Since s.vm 0 := (State.WarmedH.refl s).since 0
  have hk : 0 ≤ h0.size := Nat.zero_le _
  have e0 : s₁.heap = h0 := by rw [← hh, Bd.state]; rfl
  have N0 := Fr.nil n0
  have pre0 : ∀ t, Steps p.tables e below (s₁.setTop (mkF m 0 #[.val (.ref b), .val (.int (0 : Int32))] [])) t → Steps p.tables e below (s₁.setTop (entryFrame m #[(.ref b), (.int (0 : Int32))] 2)) t := fun t k => castTop (own_ef_own_wgm_01 m) k
  obtain ⟨T1, hp1, X1, e1, E1, A1, D1, -, st1⟩ := newO X0 hx hZ hown (hw _ (List.mem_of_getElem? (i := 78) rfl)) (hw _ (List.mem_of_getElem? (i := 45) rfl)) (hw _ (List.mem_of_getElem? (i := 46) rfl)) e0 (g := (mkF m 0 #[.val (.ref b), .val (.int (0 : Int32))] [])) rfl (hb hby own_d_prog_7_method_9_code_0) (by decide) (by decide)
  obtain ⟨b1, g1⟩ : ∃ z, z = h0.size := ⟨_, rfl⟩
  rw [← g1] at A1 D1 st1
  have ne_ow_b1 : ow ≠ b1 := Nat.ne_of_lt (Nat.lt_of_lt_of_le Eo.lt (Nat.le_of_eq g1.symm))
  have ne_ve_b1 : ve ≠ b1 := Nat.ne_of_lt (Nat.lt_of_lt_of_le Ev.lt (Nat.le_of_eq g1.symm))
  have ne_b_b1 : b ≠ b1 := Nat.ne_of_lt (Nat.lt_of_lt_of_le F_owner.lt (Nat.le_of_eq g1.symm))
  have g_b1 : n0 ≤ b1 := Nat.le_trans (Nat.le_trans Z0 (Keep.refl h0 []).1) (Nat.le_of_eq g1.symm)
  have sz_b1 : h0.size ≤ b1 := Nat.le_trans (Keep.refl h0 []).1 (Nat.le_of_eq g1.symm)
  have hk := Nat.le_trans hk E1.1
  have Kp1 := Keep.ext (Keep.refl h0 []) E1
  have F1_60 : Fld Z hp1 b1 "com/example/nokkel/nokkel/core/ClientRecord" "owner" "Ljava/lang/String;" .null := D1 (Or.inr (hw _ (List.mem_of_getElem? (i := 60) rfl))) (ty := (.object "java/lang/String")) (by decide)
  have F1_63 : Fld Z hp1 b1 "com/example/nokkel/nokkel/core/ClientRecord" "verifier" "Ljava/lang/String;" .null := D1 (Or.inr (hw _ (List.mem_of_getElem? (i := 63) rfl))) (ty := (.object "java/lang/String")) (by decide)
  have F1_65 : Fld Z hp1 b1 "com/example/nokkel/nokkel/core/ClientRecord" "locksRevoked" "Z" (.int (0 : Int32)) := D1 (Or.inr (hw _ (List.mem_of_getElem? (i := 65) rfl))) (ty := .boolean) (by decide)
  have F1_67 : Fld Z hp1 b1 "com/example/nokkel/nokkel/core/ClientRecord" "graceMissed" "Z" (.int (0 : Int32)) := D1 (Or.inr (hw _ (List.mem_of_getElem? (i := 67) rfl))) (ty := .boolean) (by decide)
  have ch2 : ∀ t, Steps p.tables e below (T1.setTop (mkF m 3 #[.val (.ref b), .val (.int (0 : Int32))] [(.ref b1)])) t → Steps p.tables e below (s₁.setTop (entryFrame m #[(.ref b), (.int (0 : Int32))] 2)) t := fun t k => pre0 t (by
      show Steps p.tables e below (s₁.setTop (mkF m 0 #[.val (.ref b), .val (.int (0 : Int32))] [])) t
      exact st1 t k)
  have cf3 := (F_owner.keep Kp1 nin0)
  obtain ⟨T4, X4, e4, st4⟩ := getF X1 hx hZ hown (host := "") (Or.inl (hw _ (List.mem_of_getElem? (i := 59) rfl))) Via.refl e1 cf3 (g := (mkF m 5 #[.val (.ref b), .val (.int (0 : Int32))] [(.ref b), (.ref b1), (.ref b1)])) rfl rfl (hb hby own_d_prog_7_method_9_code_5)
  have ch5 : ∀ t, Steps p.tables e below (T4.setTop (mkF m 8 #[.val (.ref b), .val (.int (0 : Int32))] [(.ref ow), (.ref b1), (.ref b1)])) t → Steps p.tables e below (s₁.setTop (entryFrame m #[(.ref b), (.int (0 : Int32))] 2)) t := fun t k => ch2 t (by
      show Steps p.tables e below (T1.setTop (mkF m 3 #[.val (.ref b), .val (.int (0 : Int32))] [(.ref b1)])) t
      refine XS.dup X1.here hx rfl (hb hby own_d_prog_7_method_9_code_3) rfl rfl ?_
      show Steps p.tables e below (T1.setTop (mkF m 4 #[.val (.ref b), .val (.int (0 : Int32))] [(.ref b1), (.ref b1)])) t
      refine XS.aloadN X1.here hx rfl (hb hby own_d_prog_7_method_9_code_4) rfl rfl ?_
      show Steps p.tables e below (T1.setTop (mkF m 5 #[.val (.ref b), .val (.int (0 : Int32))] [(.ref b), (.ref b1), (.ref b1)])) t
      exact st4 t k)
  have cf6 := (F_verifier.keep Kp1 nin0)
  obtain ⟨T7, X7, e7, st7⟩ := getF X4 hx hZ hown (host := "") (Or.inl (hw _ (List.mem_of_getElem? (i := 62) rfl))) Via.refl e4 cf6 (g := (mkF m 9 #[.val (.ref b), .val (.int (0 : Int32))] [(.ref b), (.ref ow), (.ref b1), (.ref b1)])) rfl rfl (hb hby own_d_prog_7_method_9_code_9)
  have ch8 : ∀ t, Steps p.tables e below (T7.setTop (mkF m 12 #[.val (.ref b), .val (.int (0 : Int32))] [(.ref ve), (.ref ow), (.ref b1), (.ref b1)])) t → Steps p.tables e below (s₁.setTop (entryFrame m #[(.ref b), (.int (0 : Int32))] 2)) t := fun t k => ch5 t (by
      show Steps p.tables e below (T4.setTop (mkF m 8 #[.val (.ref b), .val (.int (0 : Int32))] [(.ref ow), (.ref b1), (.ref b1)])) t
      refine XS.aloadN X4.here hx rfl (hb hby own_d_prog_7_method_9_code_8) rfl rfl ?_
      show Steps p.tables e below (T4.setTop (mkF m 9 #[.val (.ref b), .val (.int (0 : Int32))] [(.ref b), (.ref ow), (.ref b1), (.ref b1)])) t
      exact st7 t k)
  have cf9 := (F_locksRevoked.keep Kp1 nin0)
  obtain ⟨T10, X10, e10, st10⟩ := getF X7 hx hZ hown (host := "") (Or.inl (hw _ (List.mem_of_getElem? (i := 64) rfl))) Via.refl e7 cf9 (g := (mkF m 13 #[.val (.ref b), .val (.int (0 : Int32))] [(.ref b), (.ref ve), (.ref ow), (.ref b1), (.ref b1)])) rfl rfl (hb hby own_d_prog_7_method_9_code_13)
  have ch11 : ∀ t, Steps p.tables e below (T10.setTop (mkF m 16 #[.val (.ref b), .val (.int (0 : Int32))] [(.int (0 : Int32)), (.ref ve), (.ref ow), (.ref b1), (.ref b1)])) t → Steps p.tables e below (s₁.setTop (entryFrame m #[(.ref b), (.int (0 : Int32))] 2)) t := fun t k => ch8 t (by
      show Steps p.tables e below (T7.setTop (mkF m 12 #[.val (.ref b), .val (.int (0 : Int32))] [(.ref ve), (.ref ow), (.ref b1), (.ref b1)])) t
      refine XS.aloadN X7.here hx rfl (hb hby own_d_prog_7_method_9_code_12) rfl rfl ?_
      show Steps p.tables e below (T7.setTop (mkF m 13 #[.val (.ref b), .val (.int (0 : Int32))] [(.ref b), (.ref ve), (.ref ow), (.ref b1), (.ref b1)])) t
      exact st10 t k)
  have cf12 := (Exa.keep Eo Kp1)
  have cf13 := (Exa.keep Ev Kp1)
  obtain ⟨vv14, _, ⟨T14, L14, kk14, nn14⟩, -, X14, hS2, hgr, ⟨Lc14, hQ14, l14, y14, z14⟩, st14⟩ := X10.specialBackS hx (y := (⟨"com/example/nokkel/nokkel/core/ClientRecord", "<init>", "(Ljava/lang/String;Ljava/lang/String;ZZ)V"⟩ : MethodName)) rfl hown (mvT hZ (hw _ (List.mem_of_getElem? (i := 79) rfl))) (mvT hZ (hw _ (List.mem_of_getElem? (i := 48) rfl))) (mvT hZ (hw _ (List.mem_of_getElem? (i := 49) rfl))) (by decide) (backOfS (W := 1) (own_ini_00 l Z a0 hw [] hp1 n0 (Nat.le_trans Z0 Kp1.1) b1 ow ve A1 F1_60 F1_63 F1_65 F1_67 g_b1 cf12 cf13) hZ (hw _ (List.mem_of_getElem? (i := 49) rfl)) (hw _ (List.mem_of_getElem? (i := 46) rfl)) (by decide) (by decide)) (g := (mkF m 17 #[.val (.ref b), .val (.int (0 : Int32))] [(.int (0 : Int32)), (.int (0 : Int32)), (.ref ve), (.ref ow), (.ref b1), (.ref b1)])) rfl (by rw [hml]; rfl) (Steps.refl _) (a := b1) (argsL := [(.ref ow), (.ref ve), (.int (0 : Int32)), (.int (0 : Int32))]) (rest := [(.ref b1)]) (lenOf own_pd__Ljava_lang_String_Ljava_lang_String_ZZ_V rfl) rfl (by show 2 * 0 + _ ≤ _; exact Nat.le_of_eq rfl) (hb hby own_d_prog_7_method_9_code_17) (fun _ _ => ⟨rfl, e10, (by decide : 1 + 4 ≤ _), (by decide : 4 + 60 ≤ _)⟩)
  dsimp only [Pt.U, Pt.locs, Pt.cells, Pt.slots] at X14 l14 y14 z14 st14 hQ14 hS2 hgr
  subst l14 y14 z14
  obtain ⟨X14, hS, hZ, hown⟩ := rebS hS (by rw [e10]; exact hk) X14 hS2 hgr hZ hown
  obtain ⟨hh14, eh14⟩ : ∃ h, T14.heap = h := ⟨_, rfl⟩
  rw [eh14] at hQ14
  rw [eh14] at hS
  have hk : hh14.size ≤ hh14.size := Nat.le_refl _
  obtain ⟨rfl, Nq14, Kq14, fq14_0, fq14_1, fq14_2, fq14_3, fq14_4⟩ := hQ14
  have N14 := Fr.app N0 Nq14
  have Kp14 := Keep.trans Kp1 Kq14 (allS (Or.inr sz_b1) all0)
  have ch15 : ∀ t, Steps p.tables e below (T14.setTop (mkF m 20 #[.val (.ref b), .val (.int (0 : Int32))] [(.ref b1)])) t → Steps p.tables e below (s₁.setTop (entryFrame m #[(.ref b), (.int (0 : Int32))] 2)) t := fun t k => ch11 t (by
      show Steps p.tables e below (T10.setTop (mkF m 16 #[.val (.ref b), .val (.int (0 : Int32))] [(.int (0 : Int32)), (.ref ve), (.ref ow), (.ref b1), (.ref b1)])) t
      refine XS.iloadN X10.here hx rfl (hb hby own_d_prog_7_method_9_code_16) rfl ?_
      show Steps p.tables e below (T10.setTop (mkF m 17 #[.val (.ref b), .val (.int (0 : Int32))] [(.int (0 : Int32)), (.int (0 : Int32)), (.ref ve), (.ref ow), (.ref b1), (.ref b1)])) t
      exact st14.trans k)
  obtain ⟨fs, hr, hrun, hended, hend⟩ := X14.leaveW hS (by rw [eh14]; exact hk) (v := some (.ref b1)) (fun h => by rw [Bd.returns] at h; cases h)
  refine ⟨_, _, ch15 _ ?_, hrun, hended, _, _, rfl, ?_, hend.1, hend.2.1, hend.2.2.1, hend.2.2.2.mono (by decide) (by decide)⟩
  · show Steps p.tables e below (T14.setTop (mkF m 20 #[.val (.ref b), .val (.int (0 : Int32))] [(.ref b1)])) _
    jvm_step X14.here [X14.here.top, hx, (hb hby own_d_prog_7_method_9_code_20), X14.method', Bd.returns, Value.isRef, FieldType.isReference]
    first | (intro acts; rw [hr _ acts rfl rfl rfl]) | rw [hr _ _ rfl rfl rfl]
    exact Steps.refl _
  · show QCw Z ow ve (0 : Int32) (0 : Int32) h0 n0 _ T14.heap _
    rw [eh14]
    exact ⟨_, rfl, sz_b1, N14, Kp14, fq14_0, fq14_1, fq14_2, fq14_3, fq14_4⟩
theorem own_ef_own_mark_10 (m : MethodId) {x0 : Addr} : entryFrame m #[(.ref x0)] 1 = mkF m 0 #[.val (.ref x0)] [] := by first | (simp [entryFrame, mkF, argsToLocals, Value.category, maxLocals]; done) | rfl
set_option maxRecDepth 65536 in
set_option maxHeartbeats 40000000 in
theorem own_mark_10 (l : Launch) (Z : State) (a0 : Array Value) (hw : ∀ d ∈ tables_1, d.before a0 Z = true) (ws : List Jvm.Cond) (h0 : Heap) (n0 : Nat) (Z0 : n0 ≤ h0.size) (b ow ve : Addr) (F_owner : Fld Z h0 b "com/example/nokkel/nokkel/core/ClientRecord" "owner" "Ljava/lang/String;" (.ref ow)) (F_verifier : Fld Z h0 b "com/example/nokkel/nokkel/core/ClientRecord" "verifier" "Ljava/lang/String;" (.ref ve)) (F_locksRevoked : Fld Z h0 b "com/example/nokkel/nokkel/core/ClientRecord" "locksRevoked" "Z" (.int (1 : Int32))) (F_graceMissed : Fld Z h0 b "com/example/nokkel/nokkel/core/ClientRecord" "graceMissed" "Z" (.int (0 : Int32))) (Eo : Exa Z h0 ow "java/lang/String") (Ev : Exa Z h0 ve "java/lang/String") :
    MetFree l (⟨"com/example/nokkel/nokkel/core/ClientRecord", "isMarked", "()Z"⟩ : MethodName) (head1 (Jvm.Cond.code (⟨"com/example/nokkel/nokkel/core/ClientRecord", "isMarked", "()Z"⟩ : MethodName) prog_7_method_7_code 1 (some .boolean) :: ws) ({ frames := 0, cells := 0, slots := 0, locals := 0 } : Room)) (fun a U => a = #[(.ref b)] ∧ Z.Warmed39 U.vm ∧ U.heap = h0) (fun _ _ _ _ _ => True) (fun _ U o U' => ∃ v L, o = .returned v ∧ QV (some (.int (1 : Int32))) h0 n0 v U'.heap L ∧ FrameEnd U o U' L ({ frames := 0, cells := 0, slots := 0, locals := 0 } : Room).cells ({ frames := 0, cells := 0, slots := 0, locals := 0 } : Room).slots) := by
  refine MetFree.of_bodySF (plainFor_of_name own_pn_com_example_nokkel_nokkel_core_ClientRecord) hisR ?_
  intro p e s m args below meth c s₁ Bd hml0 hP hK
  obtain ⟨rfl, hZ, hh⟩ := hP
  have hx := Bd.exec
  have hby := Bd.bytes
  have hml : c.maxLocals = 1 := hml0
  have hown : s.vm.findClass "com/example/nokkel/nokkel/core/ClientRecord" = some m.cls := findClass_of_methodNamed Bd.named
  have hnm := (name_of_methodNamed Bd.named Bd.method).1
  have X0 : Stand p l e ({ frames := 0, cells := 0, slots := 0, locals := 0 } : Room) s m #[(.ref b)] below meth c s₁ [] 0 0 := Stand.of_body Bd
  have e0 : s₁.heap = h0 := by rw [← hh, Bd.state]; rfl
  have N0 := Fr.nil n0
  have pre0 : ∀ t, Steps p.tables e below (s₁.setTop (mkF m 0 #[.val (.ref b)] [])) t → Steps p.tables e below (s₁.setTop (entryFrame m #[(.ref b)] 1)) t := fun t k => castTop (own_ef_own_mark_10 m) k
  obtain ⟨T1, X1, e1, st1⟩ := getF X0 hx hZ hown (host := "") (Or.inl (hw _ (List.mem_of_getElem? (i := 64) rfl))) Via.refl e0 F_locksRevoked (g := (mkF m 1 #[.val (.ref b)] [(.ref b)])) rfl rfl (hb hby own_d_prog_7_method_7_code_1)
  have ch2 : ∀ t, Steps p.tables e below (T1.setTop (mkF m 4 #[.val (.ref b)] [(.int (1 : Int32))])) t → Steps p.tables e below (s₁.setTop (entryFrame m #[(.ref b)] 1)) t := fun t k => pre0 t (by
      show Steps p.tables e below (s₁.setTop (mkF m 0 #[.val (.ref b)] [])) t
      refine XS.aloadN X0.here hx rfl (hb hby own_d_prog_7_method_7_code_0) rfl rfl ?_
      show Steps p.tables e below (s₁.setTop (mkF m 1 #[.val (.ref b)] [(.ref b)])) t
      exact st1 t k)
  have ch3 : ∀ t, Steps p.tables e below (T1.setTop (mkF m 19 #[.val (.ref b)] [(.int (1 : Int32))])) t → Steps p.tables e below (s₁.setTop (entryFrame m #[(.ref b)] 1)) t := fun t k => ch2 t (by
      show Steps p.tables e below (T1.setTop (mkF m 4 #[.val (.ref b)] [(.int (1 : Int32))])) t
      refine XS.ifYes X1.here hx rfl (pc0 := 4) (pc' := 14) rfl (hb hby own_d_prog_7_method_7_code_4) rfl ((if0 _ _).trans (feq (by decide : ¬ (1 : Int32) = (0 : Int32))).2) (by decide) (by decide) ?_
      show Steps p.tables e below (T1.setTop (mkF m 14 #[.val (.ref b)] [])) t
      refine XS.iconst X1.here hx rfl (hb hby own_d_prog_7_method_7_code_14) ?_
      show Steps p.tables e below (T1.setTop (mkF m 15 #[.val (.ref b)] [(.int (1 : Int32))])) t
      refine XS.goto X1.here hx rfl (pc0 := 15) (pc' := 19) rfl (hb hby own_d_prog_7_method_7_code_15) (by decide) (by decide) ?_
      exact k)
  obtain ⟨fs, hr, hrun, hended, hW, hsame⟩ := X1.leave (v := some (.int (1 : Int32))) (fun h => by rw [Bd.returns] at h; cases h)
  refine ⟨_, _, ch3 _ ?_, hrun, hended, _, _, rfl, ?_, ⟨_, rfl⟩, hW, hsame.mono (by decide) (by decide)⟩
  · show Steps p.tables e below (T1.setTop (mkF m 19 #[.val (.ref b)] [(.int (1 : Int32))])) _
    exact retN X1 hx (t := .boolean) Bd.returns (by simp) (hb hby own_d_prog_7_method_7_code_19) hr
  · show QV (some (.int (1 : Int32))) h0 n0 _ T1.heap _
    rw [e1]
    exact ⟨rfl, N0, rfl⟩
theorem own_ef_own_wlr_10 (m : MethodId) {x0 : Addr} {x1 : Int32} : entryFrame m #[(.ref x0), (.int x1)] 2 = mkF m 0 #[.val (.ref x0), .val (.int x1)] [] := by first | (simp [entryFrame, mkF, argsToLocals, Value.category, maxLocals]; done) | rfl
set_option maxRecDepth 65536 in
set_option maxHeartbeats 40000000 in
theorem own_wlr_10 (l : Launch) (Z : State) (a0 : Array Value) (hw : ∀ d ∈ tables_1, d.before a0 Z = true) (ws : List Jvm.Cond) (h0 : Heap) (n0 : Nat) (Z0 : n0 ≤ h0.size) (b ow ve : Addr) (F_owner : Fld Z h0 b "com/example/nokkel/nokkel/core/ClientRecord" "owner" "Ljava/lang/String;" (.ref ow)) (F_verifier : Fld Z h0 b "com/example/nokkel/nokkel/core/ClientRecord" "verifier" "Ljava/lang/String;" (.ref ve)) (F_locksRevoked : Fld Z h0 b "com/example/nokkel/nokkel/core/ClientRecord" "locksRevoked" "Z" (.int (1 : Int32))) (F_graceMissed : Fld Z h0 b "com/example/nokkel/nokkel/core/ClientRecord" "graceMissed" "Z" (.int (0 : Int32))) (Eo : Exa Z h0 ow "java/lang/String") (Ev : Exa Z h0 ve "java/lang/String") :
    MetFree l (⟨"com/example/nokkel/nokkel/core/ClientRecord", "withLocksRevoked", "(Z)Lcom/example/nokkel/nokkel/core/ClientRecord;"⟩ : MethodName) (head1 (Jvm.Cond.code (⟨"com/example/nokkel/nokkel/core/ClientRecord", "withLocksRevoked", "(Z)Lcom/example/nokkel/nokkel/core/ClientRecord;"⟩ : MethodName) prog_7_method_8_code 2 (some (.object "com/example/nokkel/nokkel/core/ClientRecord")) :: ws) ({ frames := 2, cells := 5, slots := 64, locals := 31 } : Room)) (fun a U => a = #[(.ref b), (.int (0 : Int32))] ∧ Z.Warmed39 U.vm ∧ U.heap = h0) (fun _ _ _ _ _ => True) (fun _ U o U' => ∃ v L, o = .returned v ∧ QCw Z ow ve (0 : Int32) (0 : Int32) h0 n0 v U'.heap L ∧ ReturnedEndW U o U' L ({ frames := 2, cells := 5, slots := 64, locals := 31 } : Room).cells ({ frames := 2, cells := 5, slots := 64, locals := 31 } : Room).slots) := by
  refine MetFree.of_bodySF (plainFor_of_name own_pn_com_example_nokkel_nokkel_core_ClientRecord) hisR ?_
  intro p e s m args below meth c s₁ Bd hml0 hP hK
  obtain ⟨rfl, hZ, hh⟩ := hP
  have hx := Bd.exec
  have hby := Bd.bytes
  have hml : c.maxLocals = 2 := hml0
  have hown : s.vm.findClass "com/example/nokkel/nokkel/core/ClientRecord" = some m.cls := findClass_of_methodNamed Bd.named
  have hnm := (name_of_methodNamed Bd.named Bd.method).1
  have X0 : Stand p l e ({ frames := 2, cells := 5, slots := 64, locals := 31 } : Room) (s.setVm s.vm) m #[(.ref b), (.int (0 : Int32))] below meth c s₁ [] 0 0 := Stand.of_body Bd
  have hZ : Z.Warmed39 (s.setVm s.vm).vm := hZ
  have hown : (s.setVm s.vm).vm.findClass "com/example/nokkel/nokkel/core/ClientRecord" = some m.cls := hown
  have hS : s.Since s.vm 0 := (State.WarmedH.refl s).since 0
  have hk : 0 ≤ h0.size := Nat.zero_le _
  have e0 : s₁.heap = h0 := by rw [← hh, Bd.state]; rfl
  have N0 := Fr.nil n0
  have pre0 : ∀ t, Steps p.tables e below (s₁.setTop (mkF m 0 #[.val (.ref b), .val (.int (0 : Int32))] [])) t → Steps p.tables e below (s₁.setTop (entryFrame m #[(.ref b), (.int (0 : Int32))] 2)) t := fun t k => castTop (own_ef_own_wlr_10 m) k
  obtain ⟨T1, hp1, X1, e1, E1, A1, D1, -, st1⟩ := newO X0 hx hZ hown (hw _ (List.mem_of_getElem? (i := 78) rfl)) (hw _ (List.mem_of_getElem? (i := 45) rfl)) (hw _ (List.mem_of_getElem? (i := 46) rfl)) e0 (g := (mkF m 0 #[.val (.ref b), .val (.int (0 : Int32))] [])) rfl (hb hby own_d_prog_7_method_8_code_0) (by decide) (by decide)
  obtain ⟨b1, g1⟩ : ∃ z, z = h0.size := ⟨_, rfl⟩
  rw [← g1] at A1 D1 st1
  have ne_ow_b1 : ow ≠ b1 := Nat.ne_of_lt (Nat.lt_of_lt_of_le Eo.lt (Nat.le_of_eq g1.symm))
  have ne_ve_b1 : ve ≠ b1 := Nat.ne_of_lt (Nat.lt_of_lt_of_le Ev.lt (Nat.le_of_eq g1.symm))
  have ne_b_b1 : b ≠ b1 := Nat.ne_of_lt (Nat.lt_of_lt_of_le F_owner.lt (Nat.le_of_eq g1.symm))
  have g_b1 : n0 ≤ b1 := Nat.le_trans (Nat.le_trans Z0 (Keep.refl h0 []).1) (Nat.le_of_eq g1.symm)
  have sz_b1 : h0.size ≤ b1 := Nat.le_trans (Keep.refl h0 []).1 (Nat.le_of_eq g1.symm)
  have hk := Nat.le_trans hk E1.1
  have Kp1 := Keep.ext (Keep.refl h0 []) E1
  have F1_60 : Fld Z hp1 b1 "com/example/nokkel/nokkel/core/ClientRecord" "owner" "Ljava/lang/String;" .null := D1 (Or.inr (hw _ (List.mem_of_getElem? (i := 60) rfl))) (ty := (.object "java/lang/String")) (by decide)
  have F1_63 : Fld Z hp1 b1 "com/example/nokkel/nokkel/core/ClientRecord" "verifier" "Ljava/lang/String;" .null := D1 (Or.inr (hw _ (List.mem_of_getElem? (i := 63) rfl))) (ty := (.object "java/lang/String")) (by decide)
  have F1_65 : Fld Z hp1 b1 "com/example/nokkel/nokkel/core/ClientRecord" "locksRevoked" "Z" (.int (0 : Int32)) := D1 (Or.inr (hw _ (List.mem_of_getElem? (i := 65) rfl))) (ty := .boolean) (by decide)
  have F1_67 : Fld Z hp1 b1 "com/example/nokkel/nokkel/core/ClientRecord" "graceMissed" "Z" (.int (0 : Int32)) := D1 (Or.inr (hw _ (List.mem_of_getElem? (i := 67) rfl))) (ty := .boolean) (by decide)
  have ch2 : ∀ t, Steps p.tables e below (T1.setTop (mkF m 3 #[.val (.ref b), .val (.int (0 : Int32))] [(.ref b1)])) t → Steps p.tables e below (s₁.setTop (entryFrame m #[(.ref b), (.int (0 : Int32))] 2)) t := fun t k => pre0 t (by
      show Steps p.tables e below (s₁.setTop (mkF m 0 #[.val (.ref b), .val (.int (0 : Int32))] [])) t
      exact st1 t k)
  have cf3 := (F_owner.keep Kp1 nin0)
  obtain ⟨T4, X4, e4, st4⟩ := getF X1 hx hZ hown (host := "") (Or.inl (hw _ (List.mem_of_getElem? (i := 59) rfl))) Via.refl e1 cf3 (g := (mkF m 5 #[.val (.ref b), .val (.int (0 : Int32))] [(.ref b), (.ref b1), (.ref b1)])) rfl rfl (hb hby own_d_prog_7_method_8_code_5)
  have ch5 : ∀ t, Steps p.tables e below (T4.setTop (mkF m 8 #[.val (.ref b), .val (.int (0 : Int32))] [(.ref ow), (.ref b1), (.ref b1)])) t → Steps p.tables e below (s₁.setTop (entryFrame m #[(.ref b), (.int (0 : Int32))] 2)) t := fun t k => ch2 t (by
      show Steps p.tables e below (T1.setTop (mkF m 3 #[.val (.ref b), .val (.int (0 : Int32))] [(.ref b1)])) t
      refine XS.dup X1.here hx rfl (hb hby own_d_prog_7_method_8_code_3) rfl rfl ?_
      show Steps p.tables e below (T1.setTop (mkF m 4 #[.val (.ref b), .val (.int (0 : Int32))] [(.ref b1), (.ref b1)])) t
      refine XS.aloadN X1.here hx rfl (hb hby own_d_prog_7_method_8_code_4) rfl rfl ?_
      show Steps p.tables e below (T1.setTop (mkF m 5 #[.val (.ref b), .val (.int (0 : Int32))] [(.ref b), (.ref b1), (.ref b1)])) t
      exact st4 t k)
  have cf6 := (F_verifier.keep Kp1 nin0)
  obtain ⟨T7, X7, e7, st7⟩ := getF X4 hx hZ hown (host := "") (Or.inl (hw _ (List.mem_of_getElem? (i := 62) rfl))) Via.refl e4 cf6 (g := (mkF m 9 #[.val (.ref b), .val (.int (0 : Int32))] [(.ref b), (.ref ow), (.ref b1), (.ref b1)])) rfl rfl (hb hby own_d_prog_7_method_8_code_9)
  have ch8 : ∀ t, Steps p.tables e below (T7.setTop (mkF m 12 #[.val (.ref b), .val (.int (0 : Int32))] [(.ref ve), (.ref ow), (.ref b1), (.ref b1)])) t → Steps p.tables e below (s₁.setTop (entryFrame m #[(.ref b), (.int (0 : Int32))] 2)) t := fun t k => ch5 t (by
      show Steps p.tables e below (T4.setTop (mkF m 8 #[.val (.ref b), .val (.int (0 : Int32))] [(.ref ow), (.ref b1), (.ref b1)])) t
      refine XS.aloadN X4.here hx rfl (hb hby own_d_prog_7_method_8_code_8) rfl rfl ?_
      show Steps p.tables e below (T4.setTop (mkF m 9 #[.val (.ref b), .val (.int (0 : Int32))] [(.ref b), (.ref ow), (.ref b1), (.ref b1)])) t
      exact st7 t k)
  have cf9 := (F_graceMissed.keep Kp1 nin0)
  obtain ⟨T10, X10, e10, st10⟩ := getF X7 hx hZ hown (host := "") (Or.inl (hw _ (List.mem_of_getElem? (i := 66) rfl))) Via.refl e7 cf9 (g := (mkF m 14 #[.val (.ref b), .val (.int (0 : Int32))] [(.ref b), (.int (0 : Int32)), (.ref ve), (.ref ow), (.ref b1), (.ref b1)])) rfl rfl (hb hby own_d_prog_7_method_8_code_14)
  have ch11 : ∀ t, Steps p.tables e below (T10.setTop (mkF m 17 #[.val (.ref b), .val (.int (0 : Int32))] [(.int (0 : Int32)), (.int (0 : Int32)), (.ref ve), (.ref ow), (.ref b1), (.ref b1)])) t → Steps p.tables e below (s₁.setTop (entryFrame m #[(.ref b), (.int (0 : Int32))] 2)) t := fun t k => ch8 t (by
      show Steps p.tables e below (T7.setTop (mkF m 12 #[.val (.ref b), .val (.int (0 : Int32))] [(.ref ve), (.ref ow), (.ref b1), (.ref b1)])) t
      refine XS.iloadN X7.here hx rfl (hb hby own_d_prog_7_method_8_code_12) rfl ?_
      show Steps p.tables e below (T7.setTop (mkF m 13 #[.val (.ref b), .val (.int (0 : Int32))] [(.int (0 : Int32)), (.ref ve), (.ref ow), (.ref b1), (.ref b1)])) t
      refine XS.aloadN X7.here hx rfl (hb hby own_d_prog_7_method_8_code_13) rfl rfl ?_
      show Steps p.tables e below (T7.setTop (mkF m 14 #[.val (.ref b), .val (.int (0 : Int32))] [(.ref b), (.int (0 : Int32)), (.ref ve), (.ref ow), (.ref b1), (.ref b1)])) t
      exact st10 t k)
  have cf12 := (Exa.keep Eo Kp1)
  have cf13 := (Exa.keep Ev Kp1)
  obtain ⟨vv14, _, ⟨T14, L14, kk14, nn14⟩, -, X14, hS2, hgr, ⟨Lc14, hQ14, l14, y14, z14⟩, st14⟩ := X10.specialBackS hx (y := (⟨"com/example/nokkel/nokkel/core/ClientRecord", "<init>", "(Ljava/lang/String;Ljava/lang/String;ZZ)V"⟩ : MethodName)) rfl hown (mvT hZ (hw _ (List.mem_of_getElem? (i := 79) rfl))) (mvT hZ (hw _ (List.mem_of_getElem? (i := 48) rfl))) (mvT hZ (hw _ (List.mem_of_getElem? (i := 49) rfl))) (by decide) (backOfS (W := 1) (own_ini_00 l Z a0 hw [] hp1 n0 (Nat.le_trans Z0 Kp1.1) b1 ow ve A1 F1_60 F1_63 F1_65 F1_67 g_b1 cf12 cf13) hZ (hw _ (List.mem_of_getElem? (i := 49) rfl)) (hw _ (List.mem_of_getElem? (i := 46) rfl)) (by decide) (by decide)) (g := (mkF m 17 #[.val (.ref b), .val (.int (0 : Int32))] [(.int (0 : Int32)), (.int (0 : Int32)), (.ref ve), (.ref ow), (.ref b1), (.ref b1)])) rfl (by rw [hml]; rfl) (Steps.refl _) (a := b1) (argsL := [(.ref ow), (.ref ve), (.int (0 : Int32)), (.int (0 : Int32))]) (rest := [(.ref b1)]) (lenOf own_pd__Ljava_lang_String_Ljava_lang_String_ZZ_V rfl) rfl (by show 2 * 0 + _ ≤ _; exact Nat.le_of_eq rfl) (hb hby own_d_prog_7_method_8_code_17) (fun _ _ => ⟨rfl, e10, (by decide : 1 + 4 ≤ _), (by decide : 4 + 60 ≤ _)⟩)
  dsimp only [Pt.U, Pt.locs, Pt.cells, Pt.slots] at X14 l14 y14 z14 st14 hQ14 hS2 hgr
  subst l14 y14 z14
  obtain ⟨X14, hS, hZ, hown⟩ := rebS hS (by rw [e10]; exact hk) X14 hS2 hgr hZ hown
  obtain ⟨hh14, eh14⟩ : ∃ h, T14.heap = h := ⟨_, rfl⟩
  rw [eh14] at hQ14
  rw [eh14] at hS
  have hk : hh14.size ≤ hh14.size := Nat.le_refl _
  obtain ⟨rfl, Nq14, Kq14, fq14_0, fq14_1, fq14_2, fq14_3, fq14_4⟩ := hQ14
  have N14 := Fr.app N0 Nq14
  have Kp14 := Keep.trans Kp1 Kq14 (allS (Or.inr sz_b1) all0)
  have ch15 : ∀ t, Steps p.tables e below (T14.setTop (mkF m 20 #[.val (.ref b), .val (.int (0 : Int32))] [(.ref b1)])) t → Steps p.tables e below (s₁.setTop (entryFrame m #[(.ref b), (.int (0 : Int32))] 2)) t := fun t k => ch11 t (by
      show Steps p.tables e below (T10.setTop (mkF m 17 #[.val (.ref b), .val (.int (0 : Int32))] [(.int (0 : Int32)), (.int (0 : Int32)), (.ref ve), (.ref ow), (.ref b1), (.ref b1)])) t
      exact st14.trans k)
  obtain ⟨fs, hr, hrun, hended, hend⟩ := X14.leaveW hS (by rw [eh14]; exact hk) (v := some (.ref b1)) (fun h => by rw [Bd.returns] at h; cases h)
  refine ⟨_, _, ch15 _ ?_, hrun, hended, _, _, rfl, ?_, hend.1, hend.2.1, hend.2.2.1, hend.2.2.2.mono (by decide) (by decide)⟩
  · show Steps p.tables e below (T14.setTop (mkF m 20 #[.val (.ref b), .val (.int (0 : Int32))] [(.ref b1)])) _
    jvm_step X14.here [X14.here.top, hx, (hb hby own_d_prog_7_method_8_code_20), X14.method', Bd.returns, Value.isRef, FieldType.isReference]
    first | (intro acts; rw [hr _ acts rfl rfl rfl]) | rw [hr _ _ rfl rfl rfl]
    exact Steps.refl _
  · show QCw Z ow ve (0 : Int32) (0 : Int32) h0 n0 _ T14.heap _
    rw [eh14]
    exact ⟨_, rfl, sz_b1, N14, Kp14, fq14_0, fq14_1, fq14_2, fq14_3, fq14_4⟩
theorem own_ef_own_wgm_10 (m : MethodId) {x0 : Addr} {x1 : Int32} : entryFrame m #[(.ref x0), (.int x1)] 2 = mkF m 0 #[.val (.ref x0), .val (.int x1)] [] := by first | (simp [entryFrame, mkF, argsToLocals, Value.category, maxLocals]; done) | rfl
set_option maxRecDepth 65536 in
set_option maxHeartbeats 40000000 in
theorem own_wgm_10 (l : Launch) (Z : State) (a0 : Array Value) (hw : ∀ d ∈ tables_1, d.before a0 Z = true) (ws : List Jvm.Cond) (h0 : Heap) (n0 : Nat) (Z0 : n0 ≤ h0.size) (b ow ve : Addr) (F_owner : Fld Z h0 b "com/example/nokkel/nokkel/core/ClientRecord" "owner" "Ljava/lang/String;" (.ref ow)) (F_verifier : Fld Z h0 b "com/example/nokkel/nokkel/core/ClientRecord" "verifier" "Ljava/lang/String;" (.ref ve)) (F_locksRevoked : Fld Z h0 b "com/example/nokkel/nokkel/core/ClientRecord" "locksRevoked" "Z" (.int (1 : Int32))) (F_graceMissed : Fld Z h0 b "com/example/nokkel/nokkel/core/ClientRecord" "graceMissed" "Z" (.int (0 : Int32))) (Eo : Exa Z h0 ow "java/lang/String") (Ev : Exa Z h0 ve "java/lang/String") :
    MetFree l (⟨"com/example/nokkel/nokkel/core/ClientRecord", "withGraceMissed", "(Z)Lcom/example/nokkel/nokkel/core/ClientRecord;"⟩ : MethodName) (head1 (Jvm.Cond.code (⟨"com/example/nokkel/nokkel/core/ClientRecord", "withGraceMissed", "(Z)Lcom/example/nokkel/nokkel/core/ClientRecord;"⟩ : MethodName) prog_7_method_9_code 2 (some (.object "com/example/nokkel/nokkel/core/ClientRecord")) :: ws) ({ frames := 2, cells := 5, slots := 64, locals := 31 } : Room)) (fun a U => a = #[(.ref b), (.int (0 : Int32))] ∧ Z.Warmed39 U.vm ∧ U.heap = h0) (fun _ _ _ _ _ => True) (fun _ U o U' => ∃ v L, o = .returned v ∧ QCw Z ow ve (1 : Int32) (0 : Int32) h0 n0 v U'.heap L ∧ ReturnedEndW U o U' L ({ frames := 2, cells := 5, slots := 64, locals := 31 } : Room).cells ({ frames := 2, cells := 5, slots := 64, locals := 31 } : Room).slots) := by
  refine MetFree.of_bodySF (plainFor_of_name own_pn_com_example_nokkel_nokkel_core_ClientRecord) hisR ?_
  intro p e s m args below meth c s₁ Bd hml0 hP hK
  obtain ⟨rfl, hZ, hh⟩ := hP
  have hx := Bd.exec
  have hby := Bd.bytes
  have hml : c.maxLocals = 2 := hml0
  have hown : s.vm.findClass "com/example/nokkel/nokkel/core/ClientRecord" = some m.cls := findClass_of_methodNamed Bd.named
  have hnm := (name_of_methodNamed Bd.named Bd.method).1
  have X0 : Stand p l e ({ frames := 2, cells := 5, slots := 64, locals := 31 } : Room) (s.setVm s.vm) m #[(.ref b), (.int (0 : Int32))] below meth c s₁ [] 0 0 := Stand.of_body Bd
  have hZ : Z.Warmed39 (s.setVm s.vm).vm := hZ
  have hown : (s.setVm s.vm).vm.findClass "com/example/nokkel/nokkel/core/ClientRecord" = some m.cls := hown
  have hS : s.Since s.vm 0 := (State.WarmedH.refl s).since 0
  have hk : 0 ≤ h0.size := Nat.zero_le _
  have e0 : s₁.heap = h0 := by rw [← hh, Bd.state]; rfl
  have N0 := Fr.nil n0
  have pre0 : ∀ t, Steps p.tables e below (s₁.setTop (mkF m 0 #[.val (.ref b), .val (.int (0 : Int32))] [])) t → Steps p.tables e below (s₁.setTop (entryFrame m #[(.ref b), (.int (0 : Int32))] 2)) t := fun t k => castTop (own_ef_own_wgm_10 m) k
  obtain ⟨T1, hp1, X1, e1, E1, A1, D1, -, st1⟩ := newO X0 hx hZ hown (hw _ (List.mem_of_getElem? (i := 78) rfl)) (hw _ (List.mem_of_getElem? (i := 45) rfl)) (hw _ (List.mem_of_getElem? (i := 46) rfl)) e0 (g := (mkF m 0 #[.val (.ref b), .val (.int (0 : Int32))] [])) rfl (hb hby own_d_prog_7_method_9_code_0) (by decide) (by decide)
  obtain ⟨b1, g1⟩ : ∃ z, z = h0.size := ⟨_, rfl⟩
  rw [← g1] at A1 D1 st1
  have ne_ow_b1 : ow ≠ b1 := Nat.ne_of_lt (Nat.lt_of_lt_of_le Eo.lt (Nat.le_of_eq g1.symm))
  have ne_ve_b1 : ve ≠ b1 := Nat.ne_of_lt (Nat.lt_of_lt_of_le Ev.lt (Nat.le_of_eq g1.symm))
  have ne_b_b1 : b ≠ b1 := Nat.ne_of_lt (Nat.lt_of_lt_of_le F_owner.lt (Nat.le_of_eq g1.symm))
  have g_b1 : n0 ≤ b1 := Nat.le_trans (Nat.le_trans Z0 (Keep.refl h0 []).1) (Nat.le_of_eq g1.symm)
  have sz_b1 : h0.size ≤ b1 := Nat.le_trans (Keep.refl h0 []).1 (Nat.le_of_eq g1.symm)
  have hk := Nat.le_trans hk E1.1
  have Kp1 := Keep.ext (Keep.refl h0 []) E1
  have F1_60 : Fld Z hp1 b1 "com/example/nokkel/nokkel/core/ClientRecord" "owner" "Ljava/lang/String;" .null := D1 (Or.inr (hw _ (List.mem_of_getElem? (i := 60) rfl))) (ty := (.object "java/lang/String")) (by decide)
  have F1_63 : Fld Z hp1 b1 "com/example/nokkel/nokkel/core/ClientRecord" "verifier" "Ljava/lang/String;" .null := D1 (Or.inr (hw _ (List.mem_of_getElem? (i := 63) rfl))) (ty := (.object "java/lang/String")) (by decide)
  have F1_65 : Fld Z hp1 b1 "com/example/nokkel/nokkel/core/ClientRecord" "locksRevoked" "Z" (.int (0 : Int32)) := D1 (Or.inr (hw _ (List.mem_of_getElem? (i := 65) rfl))) (ty := .boolean) (by decide)
  have F1_67 : Fld Z hp1 b1 "com/example/nokkel/nokkel/core/ClientRecord" "graceMissed" "Z" (.int (0 : Int32)) := D1 (Or.inr (hw _ (List.mem_of_getElem? (i := 67) rfl))) (ty := .boolean) (by decide)
  have ch2 : ∀ t, Steps p.tables e below (T1.setTop (mkF m 3 #[.val (.ref b), .val (.int (0 : Int32))] [(.ref b1)])) t → Steps p.tables e below (s₁.setTop (entryFrame m #[(.ref b), (.int (0 : Int32))] 2)) t := fun t k => pre0 t (by
      show Steps p.tables e below (s₁.setTop (mkF m 0 #[.val (.ref b), .val (.int (0 : Int32))] [])) t
      exact st1 t k)
  have cf3 := (F_owner.keep Kp1 nin0)
  obtain ⟨T4, X4, e4, st4⟩ := getF X1 hx hZ hown (host := "") (Or.inl (hw _ (List.mem_of_getElem? (i := 59) rfl))) Via.refl e1 cf3 (g := (mkF m 5 #[.val (.ref b), .val (.int (0 : Int32))] [(.ref b), (.ref b1), (.ref b1)])) rfl rfl (hb hby own_d_prog_7_method_9_code_5)
  have ch5 : ∀ t, Steps p.tables e below (T4.setTop (mkF m 8 #[.val (.ref b), .val (.int (0 : Int32))] [(.ref ow), (.ref b1), (.ref b1)])) t → Steps p.tables e below (s₁.setTop (entryFrame m #[(.ref b), (.int (0 : Int32))] 2)) t := fun t k => ch2 t (by
      show Steps p.tables e below (T1.setTop (mkF m 3 #[.val (.ref b), .val (.int (0 : Int32))] [(.ref b1)])) t
      refine XS.dup X1.here hx rfl (hb hby own_d_prog_7_method_9_code_3) rfl rfl ?_
      show Steps p.tables e below (T1.setTop (mkF m 4 #[.val (.ref b), .val (.int (0 : Int32))] [(.ref b1), (.ref b1)])) t
      refine XS.aloadN X1.here hx rfl (hb hby own_d_prog_7_method_9_code_4) rfl rfl ?_
      show Steps p.tables e below (T1.setTop (mkF m 5 #[.val (.ref b), .val (.int (0 : Int32))] [(.ref b), (.ref b1), (.ref b1)])) t
      exact st4 t k)
  have cf6 := (F_verifier.keep Kp1 nin0)
  obtain ⟨T7, X7, e7, st7⟩ := getF X4 hx hZ hown (host := "") (Or.inl (hw _ (List.mem_of_getElem? (i := 62) rfl))) Via.refl e4 cf6 (g := (mkF m 9 #[.val (.ref b), .val (.int (0 : Int32))] [(.ref b), (.ref ow), (.ref b1), (.ref b1)])) rfl rfl (hb hby own_d_prog_7_method_9_code_9)
  have ch8 : ∀ t, Steps p.tables e below (T7.setTop (mkF m 12 #[.val (.ref b), .val (.int (0 : Int32))] [(.ref ve), (.ref ow), (.ref b1), (.ref b1)])) t → Steps p.tables e below (s₁.setTop (entryFrame m #[(.ref b), (.int (0 : Int32))] 2)) t := fun t k => ch5 t (by
      show Steps p.tables e below (T4.setTop (mkF m 8 #[.val (.ref b), .val (.int (0 : Int32))] [(.ref ow), (.ref b1), (.ref b1)])) t
      refine XS.aloadN X4.here hx rfl (hb hby own_d_prog_7_method_9_code_8) rfl rfl ?_
      show Steps p.tables e below (T4.setTop (mkF m 9 #[.val (.ref b), .val (.int (0 : Int32))] [(.ref b), (.ref ow), (.ref b1), (.ref b1)])) t
      exact st7 t k)
  have cf9 := (F_locksRevoked.keep Kp1 nin0)
  obtain ⟨T10, X10, e10, st10⟩ := getF X7 hx hZ hown (host := "") (Or.inl (hw _ (List.mem_of_getElem? (i := 64) rfl))) Via.refl e7 cf9 (g := (mkF m 13 #[.val (.ref b), .val (.int (0 : Int32))] [(.ref b), (.ref ve), (.ref ow), (.ref b1), (.ref b1)])) rfl rfl (hb hby own_d_prog_7_method_9_code_13)
  have ch11 : ∀ t, Steps p.tables e below (T10.setTop (mkF m 16 #[.val (.ref b), .val (.int (0 : Int32))] [(.int (1 : Int32)), (.ref ve), (.ref ow), (.ref b1), (.ref b1)])) t → Steps p.tables e below (s₁.setTop (entryFrame m #[(.ref b), (.int (0 : Int32))] 2)) t := fun t k => ch8 t (by
      show Steps p.tables e below (T7.setTop (mkF m 12 #[.val (.ref b), .val (.int (0 : Int32))] [(.ref ve), (.ref ow), (.ref b1), (.ref b1)])) t
      refine XS.aloadN X7.here hx rfl (hb hby own_d_prog_7_method_9_code_12) rfl rfl ?_
      show Steps p.tables e below (T7.setTop (mkF m 13 #[.val (.ref b), .val (.int (0 : Int32))] [(.ref b), (.ref ve), (.ref ow), (.ref b1), (.ref b1)])) t
      exact st10 t k)
  have cf12 := (Exa.keep Eo Kp1)
  have cf13 := (Exa.keep Ev Kp1)
  obtain ⟨vv14, _, ⟨T14, L14, kk14, nn14⟩, -, X14, hS2, hgr, ⟨Lc14, hQ14, l14, y14, z14⟩, st14⟩ := X10.specialBackS hx (y := (⟨"com/example/nokkel/nokkel/core/ClientRecord", "<init>", "(Ljava/lang/String;Ljava/lang/String;ZZ)V"⟩ : MethodName)) rfl hown (mvT hZ (hw _ (List.mem_of_getElem? (i := 79) rfl))) (mvT hZ (hw _ (List.mem_of_getElem? (i := 48) rfl))) (mvT hZ (hw _ (List.mem_of_getElem? (i := 49) rfl))) (by decide) (backOfS (W := 1) (own_ini_10 l Z a0 hw [] hp1 n0 (Nat.le_trans Z0 Kp1.1) b1 ow ve A1 F1_60 F1_63 F1_65 F1_67 g_b1 cf12 cf13) hZ (hw _ (List.mem_of_getElem? (i := 49) rfl)) (hw _ (List.mem_of_getElem? (i := 46) rfl)) (by decide) (by decide)) (g := (mkF m 17 #[.val (.ref b), .val (.int (0 : Int32))] [(.int (0 : Int32)), (.int (1 : Int32)), (.ref ve), (.ref ow), (.ref b1), (.ref b1)])) rfl (by rw [hml]; rfl) (Steps.refl _) (a := b1) (argsL := [(.ref ow), (.ref ve), (.int (1 : Int32)), (.int (0 : Int32))]) (rest := [(.ref b1)]) (lenOf own_pd__Ljava_lang_String_Ljava_lang_String_ZZ_V rfl) rfl (by show 2 * 0 + _ ≤ _; exact Nat.le_of_eq rfl) (hb hby own_d_prog_7_method_9_code_17) (fun _ _ => ⟨rfl, e10, (by decide : 1 + 4 ≤ _), (by decide : 4 + 60 ≤ _)⟩)
  dsimp only [Pt.U, Pt.locs, Pt.cells, Pt.slots] at X14 l14 y14 z14 st14 hQ14 hS2 hgr
  subst l14 y14 z14
  obtain ⟨X14, hS, hZ, hown⟩ := rebS hS (by rw [e10]; exact hk) X14 hS2 hgr hZ hown
  obtain ⟨hh14, eh14⟩ : ∃ h, T14.heap = h := ⟨_, rfl⟩
  rw [eh14] at hQ14
  rw [eh14] at hS
  have hk : hh14.size ≤ hh14.size := Nat.le_refl _
  obtain ⟨rfl, Nq14, Kq14, fq14_0, fq14_1, fq14_2, fq14_3, fq14_4⟩ := hQ14
  have N14 := Fr.app N0 Nq14
  have Kp14 := Keep.trans Kp1 Kq14 (allS (Or.inr sz_b1) all0)
  have ch15 : ∀ t, Steps p.tables e below (T14.setTop (mkF m 20 #[.val (.ref b), .val (.int (0 : Int32))] [(.ref b1)])) t → Steps p.tables e below (s₁.setTop (entryFrame m #[(.ref b), (.int (0 : Int32))] 2)) t := fun t k => ch11 t (by
      show Steps p.tables e below (T10.setTop (mkF m 16 #[.val (.ref b), .val (.int (0 : Int32))] [(.int (1 : Int32)), (.ref ve), (.ref ow), (.ref b1), (.ref b1)])) t
      refine XS.iloadN X10.here hx rfl (hb hby own_d_prog_7_method_9_code_16) rfl ?_
      show Steps p.tables e below (T10.setTop (mkF m 17 #[.val (.ref b), .val (.int (0 : Int32))] [(.int (0 : Int32)), (.int (1 : Int32)), (.ref ve), (.ref ow), (.ref b1), (.ref b1)])) t
      exact st14.trans k)
  obtain ⟨fs, hr, hrun, hended, hend⟩ := X14.leaveW hS (by rw [eh14]; exact hk) (v := some (.ref b1)) (fun h => by rw [Bd.returns] at h; cases h)
  refine ⟨_, _, ch15 _ ?_, hrun, hended, _, _, rfl, ?_, hend.1, hend.2.1, hend.2.2.1, hend.2.2.2.mono (by decide) (by decide)⟩
  · show Steps p.tables e below (T14.setTop (mkF m 20 #[.val (.ref b), .val (.int (0 : Int32))] [(.ref b1)])) _
    jvm_step X14.here [X14.here.top, hx, (hb hby own_d_prog_7_method_9_code_20), X14.method', Bd.returns, Value.isRef, FieldType.isReference]
    first | (intro acts; rw [hr _ acts rfl rfl rfl]) | rw [hr _ _ rfl rfl rfl]
    exact Steps.refl _
  · show QCw Z ow ve (1 : Int32) (0 : Int32) h0 n0 _ T14.heap _
    rw [eh14]
    exact ⟨_, rfl, sz_b1, N14, Kp14, fq14_0, fq14_1, fq14_2, fq14_3, fq14_4⟩
theorem own_ef_own_mark_11 (m : MethodId) {x0 : Addr} : entryFrame m #[(.ref x0)] 1 = mkF m 0 #[.val (.ref x0)] [] := by first | (simp [entryFrame, mkF, argsToLocals, Value.category, maxLocals]; done) | rfl
set_option maxRecDepth 65536 in
set_option maxHeartbeats 40000000 in
theorem own_mark_11 (l : Launch) (Z : State) (a0 : Array Value) (hw : ∀ d ∈ tables_1, d.before a0 Z = true) (ws : List Jvm.Cond) (h0 : Heap) (n0 : Nat) (Z0 : n0 ≤ h0.size) (b ow ve : Addr) (F_owner : Fld Z h0 b "com/example/nokkel/nokkel/core/ClientRecord" "owner" "Ljava/lang/String;" (.ref ow)) (F_verifier : Fld Z h0 b "com/example/nokkel/nokkel/core/ClientRecord" "verifier" "Ljava/lang/String;" (.ref ve)) (F_locksRevoked : Fld Z h0 b "com/example/nokkel/nokkel/core/ClientRecord" "locksRevoked" "Z" (.int (1 : Int32))) (F_graceMissed : Fld Z h0 b "com/example/nokkel/nokkel/core/ClientRecord" "graceMissed" "Z" (.int (1 : Int32))) (Eo : Exa Z h0 ow "java/lang/String") (Ev : Exa Z h0 ve "java/lang/String") :
    MetFree l (⟨"com/example/nokkel/nokkel/core/ClientRecord", "isMarked", "()Z"⟩ : MethodName) (head1 (Jvm.Cond.code (⟨"com/example/nokkel/nokkel/core/ClientRecord", "isMarked", "()Z"⟩ : MethodName) prog_7_method_7_code 1 (some .boolean) :: ws) ({ frames := 0, cells := 0, slots := 0, locals := 0 } : Room)) (fun a U => a = #[(.ref b)] ∧ Z.Warmed39 U.vm ∧ U.heap = h0) (fun _ _ _ _ _ => True) (fun _ U o U' => ∃ v L, o = .returned v ∧ QV (some (.int (1 : Int32))) h0 n0 v U'.heap L ∧ FrameEnd U o U' L ({ frames := 0, cells := 0, slots := 0, locals := 0 } : Room).cells ({ frames := 0, cells := 0, slots := 0, locals := 0 } : Room).slots) := by
  refine MetFree.of_bodySF (plainFor_of_name own_pn_com_example_nokkel_nokkel_core_ClientRecord) hisR ?_
  intro p e s m args below meth c s₁ Bd hml0 hP hK
  obtain ⟨rfl, hZ, hh⟩ := hP
  have hx := Bd.exec
  have hby := Bd.bytes
  have hml : c.maxLocals = 1 := hml0
  have hown : s.vm.findClass "com/example/nokkel/nokkel/core/ClientRecord" = some m.cls := findClass_of_methodNamed Bd.named
  have hnm := (name_of_methodNamed Bd.named Bd.method).1
  have X0 : Stand p l e ({ frames := 0, cells := 0, slots := 0, locals := 0 } : Room) s m #[(.ref b)] below meth c s₁ [] 0 0 := Stand.of_body Bd
  have e0 : s₁.heap = h0 := by rw [← hh, Bd.state]; rfl
  have N0 := Fr.nil n0
  have pre0 : ∀ t, Steps p.tables e below (s₁.setTop (mkF m 0 #[.val (.ref b)] [])) t → Steps p.tables e below (s₁.setTop (entryFrame m #[(.ref b)] 1)) t := fun t k => castTop (own_ef_own_mark_11 m) k
  obtain ⟨T1, X1, e1, st1⟩ := getF X0 hx hZ hown (host := "") (Or.inl (hw _ (List.mem_of_getElem? (i := 64) rfl))) Via.refl e0 F_locksRevoked (g := (mkF m 1 #[.val (.ref b)] [(.ref b)])) rfl rfl (hb hby own_d_prog_7_method_7_code_1)
  have ch2 : ∀ t, Steps p.tables e below (T1.setTop (mkF m 4 #[.val (.ref b)] [(.int (1 : Int32))])) t → Steps p.tables e below (s₁.setTop (entryFrame m #[(.ref b)] 1)) t := fun t k => pre0 t (by
      show Steps p.tables e below (s₁.setTop (mkF m 0 #[.val (.ref b)] [])) t
      refine XS.aloadN X0.here hx rfl (hb hby own_d_prog_7_method_7_code_0) rfl rfl ?_
      show Steps p.tables e below (s₁.setTop (mkF m 1 #[.val (.ref b)] [(.ref b)])) t
      exact st1 t k)
  have ch3 : ∀ t, Steps p.tables e below (T1.setTop (mkF m 19 #[.val (.ref b)] [(.int (1 : Int32))])) t → Steps p.tables e below (s₁.setTop (entryFrame m #[(.ref b)] 1)) t := fun t k => ch2 t (by
      show Steps p.tables e below (T1.setTop (mkF m 4 #[.val (.ref b)] [(.int (1 : Int32))])) t
      refine XS.ifYes X1.here hx rfl (pc0 := 4) (pc' := 14) rfl (hb hby own_d_prog_7_method_7_code_4) rfl ((if0 _ _).trans (feq (by decide : ¬ (1 : Int32) = (0 : Int32))).2) (by decide) (by decide) ?_
      show Steps p.tables e below (T1.setTop (mkF m 14 #[.val (.ref b)] [])) t
      refine XS.iconst X1.here hx rfl (hb hby own_d_prog_7_method_7_code_14) ?_
      show Steps p.tables e below (T1.setTop (mkF m 15 #[.val (.ref b)] [(.int (1 : Int32))])) t
      refine XS.goto X1.here hx rfl (pc0 := 15) (pc' := 19) rfl (hb hby own_d_prog_7_method_7_code_15) (by decide) (by decide) ?_
      exact k)
  obtain ⟨fs, hr, hrun, hended, hW, hsame⟩ := X1.leave (v := some (.int (1 : Int32))) (fun h => by rw [Bd.returns] at h; cases h)
  refine ⟨_, _, ch3 _ ?_, hrun, hended, _, _, rfl, ?_, ⟨_, rfl⟩, hW, hsame.mono (by decide) (by decide)⟩
  · show Steps p.tables e below (T1.setTop (mkF m 19 #[.val (.ref b)] [(.int (1 : Int32))])) _
    exact retN X1 hx (t := .boolean) Bd.returns (by simp) (hb hby own_d_prog_7_method_7_code_19) hr
  · show QV (some (.int (1 : Int32))) h0 n0 _ T1.heap _
    rw [e1]
    exact ⟨rfl, N0, rfl⟩
theorem own_ef_own_wlr_11 (m : MethodId) {x0 : Addr} {x1 : Int32} : entryFrame m #[(.ref x0), (.int x1)] 2 = mkF m 0 #[.val (.ref x0), .val (.int x1)] [] := by first | (simp [entryFrame, mkF, argsToLocals, Value.category, maxLocals]; done) | rfl
set_option maxRecDepth 65536 in
set_option maxHeartbeats 40000000 in
theorem own_wlr_11 (l : Launch) (Z : State) (a0 : Array Value) (hw : ∀ d ∈ tables_1, d.before a0 Z = true) (ws : List Jvm.Cond) (h0 : Heap) (n0 : Nat) (Z0 : n0 ≤ h0.size) (b ow ve : Addr) (F_owner : Fld Z h0 b "com/example/nokkel/nokkel/core/ClientRecord" "owner" "Ljava/lang/String;" (.ref ow)) (F_verifier : Fld Z h0 b "com/example/nokkel/nokkel/core/ClientRecord" "verifier" "Ljava/lang/String;" (.ref ve)) (F_locksRevoked : Fld Z h0 b "com/example/nokkel/nokkel/core/ClientRecord" "locksRevoked" "Z" (.int (1 : Int32))) (F_graceMissed : Fld Z h0 b "com/example/nokkel/nokkel/core/ClientRecord" "graceMissed" "Z" (.int (1 : Int32))) (Eo : Exa Z h0 ow "java/lang/String") (Ev : Exa Z h0 ve "java/lang/String") :
    MetFree l (⟨"com/example/nokkel/nokkel/core/ClientRecord", "withLocksRevoked", "(Z)Lcom/example/nokkel/nokkel/core/ClientRecord;"⟩ : MethodName) (head1 (Jvm.Cond.code (⟨"com/example/nokkel/nokkel/core/ClientRecord", "withLocksRevoked", "(Z)Lcom/example/nokkel/nokkel/core/ClientRecord;"⟩ : MethodName) prog_7_method_8_code 2 (some (.object "com/example/nokkel/nokkel/core/ClientRecord")) :: ws) ({ frames := 2, cells := 5, slots := 64, locals := 31 } : Room)) (fun a U => a = #[(.ref b), (.int (0 : Int32))] ∧ Z.Warmed39 U.vm ∧ U.heap = h0) (fun _ _ _ _ _ => True) (fun _ U o U' => ∃ v L, o = .returned v ∧ QCw Z ow ve (0 : Int32) (1 : Int32) h0 n0 v U'.heap L ∧ ReturnedEndW U o U' L ({ frames := 2, cells := 5, slots := 64, locals := 31 } : Room).cells ({ frames := 2, cells := 5, slots := 64, locals := 31 } : Room).slots) := by
  refine MetFree.of_bodySF (plainFor_of_name own_pn_com_example_nokkel_nokkel_core_ClientRecord) hisR ?_
  intro p e s m args below meth c s₁ Bd hml0 hP hK
  obtain ⟨rfl, hZ, hh⟩ := hP
  have hx := Bd.exec
  have hby := Bd.bytes
  have hml : c.maxLocals = 2 := hml0
  have hown : s.vm.findClass "com/example/nokkel/nokkel/core/ClientRecord" = some m.cls := findClass_of_methodNamed Bd.named
  have hnm := (name_of_methodNamed Bd.named Bd.method).1
  have X0 : Stand p l e ({ frames := 2, cells := 5, slots := 64, locals := 31 } : Room) (s.setVm s.vm) m #[(.ref b), (.int (0 : Int32))] below meth c s₁ [] 0 0 := Stand.of_body Bd
  have hZ : Z.Warmed39 (s.setVm s.vm).vm := hZ
  have hown : (s.setVm s.vm).vm.findClass "com/example/nokkel/nokkel/core/ClientRecord" = some m.cls := hown
  have hS : s.Since s.vm 0 := (State.WarmedH.refl s).since 0
  have hk : 0 ≤ h0.size := Nat.zero_le _
  have e0 : s₁.heap = h0 := by rw [← hh, Bd.state]; rfl
  have N0 := Fr.nil n0
  have pre0 : ∀ t, Steps p.tables e below (s₁.setTop (mkF m 0 #[.val (.ref b), .val (.int (0 : Int32))] [])) t → Steps p.tables e below (s₁.setTop (entryFrame m #[(.ref b), (.int (0 : Int32))] 2)) t := fun t k => castTop (own_ef_own_wlr_11 m) k
  obtain ⟨T1, hp1, X1, e1, E1, A1, D1, -, st1⟩ := newO X0 hx hZ hown (hw _ (List.mem_of_getElem? (i := 78) rfl)) (hw _ (List.mem_of_getElem? (i := 45) rfl)) (hw _ (List.mem_of_getElem? (i := 46) rfl)) e0 (g := (mkF m 0 #[.val (.ref b), .val (.int (0 : Int32))] [])) rfl (hb hby own_d_prog_7_method_8_code_0) (by decide) (by decide)
  obtain ⟨b1, g1⟩ : ∃ z, z = h0.size := ⟨_, rfl⟩
  rw [← g1] at A1 D1 st1
  have ne_ow_b1 : ow ≠ b1 := Nat.ne_of_lt (Nat.lt_of_lt_of_le Eo.lt (Nat.le_of_eq g1.symm))
  have ne_ve_b1 : ve ≠ b1 := Nat.ne_of_lt (Nat.lt_of_lt_of_le Ev.lt (Nat.le_of_eq g1.symm))
  have ne_b_b1 : b ≠ b1 := Nat.ne_of_lt (Nat.lt_of_lt_of_le F_owner.lt (Nat.le_of_eq g1.symm))
  have g_b1 : n0 ≤ b1 := Nat.le_trans (Nat.le_trans Z0 (Keep.refl h0 []).1) (Nat.le_of_eq g1.symm)
  have sz_b1 : h0.size ≤ b1 := Nat.le_trans (Keep.refl h0 []).1 (Nat.le_of_eq g1.symm)
  have hk := Nat.le_trans hk E1.1
  have Kp1 := Keep.ext (Keep.refl h0 []) E1
  have F1_60 : Fld Z hp1 b1 "com/example/nokkel/nokkel/core/ClientRecord" "owner" "Ljava/lang/String;" .null := D1 (Or.inr (hw _ (List.mem_of_getElem? (i := 60) rfl))) (ty := (.object "java/lang/String")) (by decide)
  have F1_63 : Fld Z hp1 b1 "com/example/nokkel/nokkel/core/ClientRecord" "verifier" "Ljava/lang/String;" .null := D1 (Or.inr (hw _ (List.mem_of_getElem? (i := 63) rfl))) (ty := (.object "java/lang/String")) (by decide)
  have F1_65 : Fld Z hp1 b1 "com/example/nokkel/nokkel/core/ClientRecord" "locksRevoked" "Z" (.int (0 : Int32)) := D1 (Or.inr (hw _ (List.mem_of_getElem? (i := 65) rfl))) (ty := .boolean) (by decide)
  have F1_67 : Fld Z hp1 b1 "com/example/nokkel/nokkel/core/ClientRecord" "graceMissed" "Z" (.int (0 : Int32)) := D1 (Or.inr (hw _ (List.mem_of_getElem? (i := 67) rfl))) (ty := .boolean) (by decide)
  have ch2 : ∀ t, Steps p.tables e below (T1.setTop (mkF m 3 #[.val (.ref b), .val (.int (0 : Int32))] [(.ref b1)])) t → Steps p.tables e below (s₁.setTop (entryFrame m #[(.ref b), (.int (0 : Int32))] 2)) t := fun t k => pre0 t (by
      show Steps p.tables e below (s₁.setTop (mkF m 0 #[.val (.ref b), .val (.int (0 : Int32))] [])) t
      exact st1 t k)
  have cf3 := (F_owner.keep Kp1 nin0)
  obtain ⟨T4, X4, e4, st4⟩ := getF X1 hx hZ hown (host := "") (Or.inl (hw _ (List.mem_of_getElem? (i := 59) rfl))) Via.refl e1 cf3 (g := (mkF m 5 #[.val (.ref b), .val (.int (0 : Int32))] [(.ref b), (.ref b1), (.ref b1)])) rfl rfl (hb hby own_d_prog_7_method_8_code_5)
  have ch5 : ∀ t, Steps p.tables e below (T4.setTop (mkF m 8 #[.val (.ref b), .val (.int (0 : Int32))] [(.ref ow), (.ref b1), (.ref b1)])) t → Steps p.tables e below (s₁.setTop (entryFrame m #[(.ref b), (.int (0 : Int32))] 2)) t := fun t k => ch2 t (by
      show Steps p.tables e below (T1.setTop (mkF m 3 #[.val (.ref b), .val (.int (0 : Int32))] [(.ref b1)])) t
      refine XS.dup X1.here hx rfl (hb hby own_d_prog_7_method_8_code_3) rfl rfl ?_
      show Steps p.tables e below (T1.setTop (mkF m 4 #[.val (.ref b), .val (.int (0 : Int32))] [(.ref b1), (.ref b1)])) t
      refine XS.aloadN X1.here hx rfl (hb hby own_d_prog_7_method_8_code_4) rfl rfl ?_
      show Steps p.tables e below (T1.setTop (mkF m 5 #[.val (.ref b), .val (.int (0 : Int32))] [(.ref b), (.ref b1), (.ref b1)])) t
      exact st4 t k)
  have cf6 := (F_verifier.keep Kp1 nin0)
  obtain ⟨T7, X7, e7, st7⟩ := getF X4 hx hZ hown (host := "") (Or.inl (hw _ (List.mem_of_getElem? (i := 62) rfl))) Via.refl e4 cf6 (g := (mkF m 9 #[.val (.ref b), .val (.int (0 : Int32))] [(.ref b), (.ref ow), (.ref b1), (.ref b1)])) rfl rfl (hb hby own_d_prog_7_method_8_code_9)
  have ch8 : ∀ t, Steps p.tables e below (T7.setTop (mkF m 12 #[.val (.ref b), .val (.int (0 : Int32))] [(.ref ve), (.ref ow), (.ref b1), (.ref b1)])) t → Steps p.tables e below (s₁.setTop (entryFrame m #[(.ref b), (.int (0 : Int32))] 2)) t := fun t k => ch5 t (by
      show Steps p.tables e below (T4.setTop (mkF m 8 #[.val (.ref b), .val (.int (0 : Int32))] [(.ref ow), (.ref b1), (.ref b1)])) t
      refine XS.aloadN X4.here hx rfl (hb hby own_d_prog_7_method_8_code_8) rfl rfl ?_
      show Steps p.tables e below (T4.setTop (mkF m 9 #[.val (.ref b), .val (.int (0 : Int32))] [(.ref b), (.ref ow), (.ref b1), (.ref b1)])) t
      exact st7 t k)
  have cf9 := (F_graceMissed.keep Kp1 nin0)
  obtain ⟨T10, X10, e10, st10⟩ := getF X7 hx hZ hown (host := "") (Or.inl (hw _ (List.mem_of_getElem? (i := 66) rfl))) Via.refl e7 cf9 (g := (mkF m 14 #[.val (.ref b), .val (.int (0 : Int32))] [(.ref b), (.int (0 : Int32)), (.ref ve), (.ref ow), (.ref b1), (.ref b1)])) rfl rfl (hb hby own_d_prog_7_method_8_code_14)
  have ch11 : ∀ t, Steps p.tables e below (T10.setTop (mkF m 17 #[.val (.ref b), .val (.int (0 : Int32))] [(.int (1 : Int32)), (.int (0 : Int32)), (.ref ve), (.ref ow), (.ref b1), (.ref b1)])) t → Steps p.tables e below (s₁.setTop (entryFrame m #[(.ref b), (.int (0 : Int32))] 2)) t := fun t k => ch8 t (by
      show Steps p.tables e below (T7.setTop (mkF m 12 #[.val (.ref b), .val (.int (0 : Int32))] [(.ref ve), (.ref ow), (.ref b1), (.ref b1)])) t
      refine XS.iloadN X7.here hx rfl (hb hby own_d_prog_7_method_8_code_12) rfl ?_
      show Steps p.tables e below (T7.setTop (mkF m 13 #[.val (.ref b), .val (.int (0 : Int32))] [(.int (0 : Int32)), (.ref ve), (.ref ow), (.ref b1), (.ref b1)])) t
      refine XS.aloadN X7.here hx rfl (hb hby own_d_prog_7_method_8_code_13) rfl rfl ?_
      show Steps p.tables e below (T7.setTop (mkF m 14 #[.val (.ref b), .val (.int (0 : Int32))] [(.ref b), (.int (0 : Int32)), (.ref ve), (.ref ow), (.ref b1), (.ref b1)])) t
      exact st10 t k)
  have cf12 := (Exa.keep Eo Kp1)
  have cf13 := (Exa.keep Ev Kp1)
  obtain ⟨vv14, _, ⟨T14, L14, kk14, nn14⟩, -, X14, hS2, hgr, ⟨Lc14, hQ14, l14, y14, z14⟩, st14⟩ := X10.specialBackS hx (y := (⟨"com/example/nokkel/nokkel/core/ClientRecord", "<init>", "(Ljava/lang/String;Ljava/lang/String;ZZ)V"⟩ : MethodName)) rfl hown (mvT hZ (hw _ (List.mem_of_getElem? (i := 79) rfl))) (mvT hZ (hw _ (List.mem_of_getElem? (i := 48) rfl))) (mvT hZ (hw _ (List.mem_of_getElem? (i := 49) rfl))) (by decide) (backOfS (W := 1) (own_ini_01 l Z a0 hw [] hp1 n0 (Nat.le_trans Z0 Kp1.1) b1 ow ve A1 F1_60 F1_63 F1_65 F1_67 g_b1 cf12 cf13) hZ (hw _ (List.mem_of_getElem? (i := 49) rfl)) (hw _ (List.mem_of_getElem? (i := 46) rfl)) (by decide) (by decide)) (g := (mkF m 17 #[.val (.ref b), .val (.int (0 : Int32))] [(.int (1 : Int32)), (.int (0 : Int32)), (.ref ve), (.ref ow), (.ref b1), (.ref b1)])) rfl (by rw [hml]; rfl) (Steps.refl _) (a := b1) (argsL := [(.ref ow), (.ref ve), (.int (0 : Int32)), (.int (1 : Int32))]) (rest := [(.ref b1)]) (lenOf own_pd__Ljava_lang_String_Ljava_lang_String_ZZ_V rfl) rfl (by show 2 * 0 + _ ≤ _; exact Nat.le_of_eq rfl) (hb hby own_d_prog_7_method_8_code_17) (fun _ _ => ⟨rfl, e10, (by decide : 1 + 4 ≤ _), (by decide : 4 + 60 ≤ _)⟩)
  dsimp only [Pt.U, Pt.locs, Pt.cells, Pt.slots] at X14 l14 y14 z14 st14 hQ14 hS2 hgr
  subst l14 y14 z14
  obtain ⟨X14, hS, hZ, hown⟩ := rebS hS (by rw [e10]; exact hk) X14 hS2 hgr hZ hown
  obtain ⟨hh14, eh14⟩ : ∃ h, T14.heap = h := ⟨_, rfl⟩
  rw [eh14] at hQ14
  rw [eh14] at hS
  have hk : hh14.size ≤ hh14.size := Nat.le_refl _
  obtain ⟨rfl, Nq14, Kq14, fq14_0, fq14_1, fq14_2, fq14_3, fq14_4⟩ := hQ14
  have N14 := Fr.app N0 Nq14
  have Kp14 := Keep.trans Kp1 Kq14 (allS (Or.inr sz_b1) all0)
  have ch15 : ∀ t, Steps p.tables e below (T14.setTop (mkF m 20 #[.val (.ref b), .val (.int (0 : Int32))] [(.ref b1)])) t → Steps p.tables e below (s₁.setTop (entryFrame m #[(.ref b), (.int (0 : Int32))] 2)) t := fun t k => ch11 t (by
      show Steps p.tables e below (T10.setTop (mkF m 17 #[.val (.ref b), .val (.int (0 : Int32))] [(.int (1 : Int32)), (.int (0 : Int32)), (.ref ve), (.ref ow), (.ref b1), (.ref b1)])) t
      exact st14.trans k)
  obtain ⟨fs, hr, hrun, hended, hend⟩ := X14.leaveW hS (by rw [eh14]; exact hk) (v := some (.ref b1)) (fun h => by rw [Bd.returns] at h; cases h)
  refine ⟨_, _, ch15 _ ?_, hrun, hended, _, _, rfl, ?_, hend.1, hend.2.1, hend.2.2.1, hend.2.2.2.mono (by decide) (by decide)⟩
  · show Steps p.tables e below (T14.setTop (mkF m 20 #[.val (.ref b), .val (.int (0 : Int32))] [(.ref b1)])) _
    jvm_step X14.here [X14.here.top, hx, (hb hby own_d_prog_7_method_8_code_20), X14.method', Bd.returns, Value.isRef, FieldType.isReference]
    first | (intro acts; rw [hr _ acts rfl rfl rfl]) | rw [hr _ _ rfl rfl rfl]
    exact Steps.refl _
  · show QCw Z ow ve (0 : Int32) (1 : Int32) h0 n0 _ T14.heap _
    rw [eh14]
    exact ⟨_, rfl, sz_b1, N14, Kp14, fq14_0, fq14_1, fq14_2, fq14_3, fq14_4⟩
theorem own_ef_own_wgm_11 (m : MethodId) {x0 : Addr} {x1 : Int32} : entryFrame m #[(.ref x0), (.int x1)] 2 = mkF m 0 #[.val (.ref x0), .val (.int x1)] [] := by first | (simp [entryFrame, mkF, argsToLocals, Value.category, maxLocals]; done) | rfl
set_option maxRecDepth 65536 in
set_option maxHeartbeats 40000000 in
theorem own_wgm_11 (l : Launch) (Z : State) (a0 : Array Value) (hw : ∀ d ∈ tables_1, d.before a0 Z = true) (ws : List Jvm.Cond) (h0 : Heap) (n0 : Nat) (Z0 : n0 ≤ h0.size) (b ow ve : Addr) (F_owner : Fld Z h0 b "com/example/nokkel/nokkel/core/ClientRecord" "owner" "Ljava/lang/String;" (.ref ow)) (F_verifier : Fld Z h0 b "com/example/nokkel/nokkel/core/ClientRecord" "verifier" "Ljava/lang/String;" (.ref ve)) (F_locksRevoked : Fld Z h0 b "com/example/nokkel/nokkel/core/ClientRecord" "locksRevoked" "Z" (.int (1 : Int32))) (F_graceMissed : Fld Z h0 b "com/example/nokkel/nokkel/core/ClientRecord" "graceMissed" "Z" (.int (1 : Int32))) (Eo : Exa Z h0 ow "java/lang/String") (Ev : Exa Z h0 ve "java/lang/String") :
    MetFree l (⟨"com/example/nokkel/nokkel/core/ClientRecord", "withGraceMissed", "(Z)Lcom/example/nokkel/nokkel/core/ClientRecord;"⟩ : MethodName) (head1 (Jvm.Cond.code (⟨"com/example/nokkel/nokkel/core/ClientRecord", "withGraceMissed", "(Z)Lcom/example/nokkel/nokkel/core/ClientRecord;"⟩ : MethodName) prog_7_method_9_code 2 (some (.object "com/example/nokkel/nokkel/core/ClientRecord")) :: ws) ({ frames := 2, cells := 5, slots := 64, locals := 31 } : Room)) (fun a U => a = #[(.ref b), (.int (0 : Int32))] ∧ Z.Warmed39 U.vm ∧ U.heap = h0) (fun _ _ _ _ _ => True) (fun _ U o U' => ∃ v L, o = .returned v ∧ QCw Z ow ve (1 : Int32) (0 : Int32) h0 n0 v U'.heap L ∧ ReturnedEndW U o U' L ({ frames := 2, cells := 5, slots := 64, locals := 31 } : Room).cells ({ frames := 2, cells := 5, slots := 64, locals := 31 } : Room).slots) := by
  refine MetFree.of_bodySF (plainFor_of_name own_pn_com_example_nokkel_nokkel_core_ClientRecord) hisR ?_
  intro p e s m args below meth c s₁ Bd hml0 hP hK
  obtain ⟨rfl, hZ, hh⟩ := hP
  have hx := Bd.exec
  have hby := Bd.bytes
  have hml : c.maxLocals = 2 := hml0
  have hown : s.vm.findClass "com/example/nokkel/nokkel/core/ClientRecord" = some m.cls := findClass_of_methodNamed Bd.named
  have hnm := (name_of_methodNamed Bd.named Bd.method).1
  have X0 : Stand p l e ({ frames := 2, cells := 5, slots := 64, locals := 31 } : Room) (s.setVm s.vm) m #[(.ref b), (.int (0 : Int32))] below meth c s₁ [] 0 0 := Stand.of_body Bd
  have hZ : Z.Warmed39 (s.setVm s.vm).vm := hZ
  have hown : (s.setVm s.vm).vm.findClass "com/example/nokkel/nokkel/core/ClientRecord" = some m.cls := hown
  have hS : s.Since s.vm 0 := (State.WarmedH.refl s).since 0
  have hk : 0 ≤ h0.size := Nat.zero_le _
  have e0 : s₁.heap = h0 := by rw [← hh, Bd.state]; rfl
  have N0 := Fr.nil n0
  have pre0 : ∀ t, Steps p.tables e below (s₁.setTop (mkF m 0 #[.val (.ref b), .val (.int (0 : Int32))] [])) t → Steps p.tables e below (s₁.setTop (entryFrame m #[(.ref b), (.int (0 : Int32))] 2)) t := fun t k => castTop (own_ef_own_wgm_11 m) k
  obtain ⟨T1, hp1, X1, e1, E1, A1, D1, -, st1⟩ := newO X0 hx hZ hown (hw _ (List.mem_of_getElem? (i := 78) rfl)) (hw _ (List.mem_of_getElem? (i := 45) rfl)) (hw _ (List.mem_of_getElem? (i := 46) rfl)) e0 (g := (mkF m 0 #[.val (.ref b), .val (.int (0 : Int32))] [])) rfl (hb hby own_d_prog_7_method_9_code_0) (by decide) (by decide)
  obtain ⟨b1, g1⟩ : ∃ z, z = h0.size := ⟨_, rfl⟩
  rw [← g1] at A1 D1 st1
  have ne_ow_b1 : ow ≠ b1 := Nat.ne_of_lt (Nat.lt_of_lt_of_le Eo.lt (Nat.le_of_eq g1.symm))
  have ne_ve_b1 : ve ≠ b1 := Nat.ne_of_lt (Nat.lt_of_lt_of_le Ev.lt (Nat.le_of_eq g1.symm))
  have ne_b_b1 : b ≠ b1 := Nat.ne_of_lt (Nat.lt_of_lt_of_le F_owner.lt (Nat.le_of_eq g1.symm))
  have g_b1 : n0 ≤ b1 := Nat.le_trans (Nat.le_trans Z0 (Keep.refl h0 []).1) (Nat.le_of_eq g1.symm)
  have sz_b1 : h0.size ≤ b1 := Nat.le_trans (Keep.refl h0 []).1 (Nat.le_of_eq g1.symm)
  have hk := Nat.le_trans hk E1.1
  have Kp1 := Keep.ext (Keep.refl h0 []) E1
  have F1_60 : Fld Z hp1 b1 "com/example/nokkel/nokkel/core/ClientRecord" "owner" "Ljava/lang/String;" .null := D1 (Or.inr (hw _ (List.mem_of_getElem? (i := 60) rfl))) (ty := (.object "java/lang/String")) (by decide)
  have F1_63 : Fld Z hp1 b1 "com/example/nokkel/nokkel/core/ClientRecord" "verifier" "Ljava/lang/String;" .null := D1 (Or.inr (hw _ (List.mem_of_getElem? (i := 63) rfl))) (ty := (.object "java/lang/String")) (by decide)
  have F1_65 : Fld Z hp1 b1 "com/example/nokkel/nokkel/core/ClientRecord" "locksRevoked" "Z" (.int (0 : Int32)) := D1 (Or.inr (hw _ (List.mem_of_getElem? (i := 65) rfl))) (ty := .boolean) (by decide)
  have F1_67 : Fld Z hp1 b1 "com/example/nokkel/nokkel/core/ClientRecord" "graceMissed" "Z" (.int (0 : Int32)) := D1 (Or.inr (hw _ (List.mem_of_getElem? (i := 67) rfl))) (ty := .boolean) (by decide)
  have ch2 : ∀ t, Steps p.tables e below (T1.setTop (mkF m 3 #[.val (.ref b), .val (.int (0 : Int32))] [(.ref b1)])) t → Steps p.tables e below (s₁.setTop (entryFrame m #[(.ref b), (.int (0 : Int32))] 2)) t := fun t k => pre0 t (by
      show Steps p.tables e below (s₁.setTop (mkF m 0 #[.val (.ref b), .val (.int (0 : Int32))] [])) t
      exact st1 t k)
  have cf3 := (F_owner.keep Kp1 nin0)
  obtain ⟨T4, X4, e4, st4⟩ := getF X1 hx hZ hown (host := "") (Or.inl (hw _ (List.mem_of_getElem? (i := 59) rfl))) Via.refl e1 cf3 (g := (mkF m 5 #[.val (.ref b), .val (.int (0 : Int32))] [(.ref b), (.ref b1), (.ref b1)])) rfl rfl (hb hby own_d_prog_7_method_9_code_5)
  have ch5 : ∀ t, Steps p.tables e below (T4.setTop (mkF m 8 #[.val (.ref b), .val (.int (0 : Int32))] [(.ref ow), (.ref b1), (.ref b1)])) t → Steps p.tables e below (s₁.setTop (entryFrame m #[(.ref b), (.int (0 : Int32))] 2)) t := fun t k => ch2 t (by
      show Steps p.tables e below (T1.setTop (mkF m 3 #[.val (.ref b), .val (.int (0 : Int32))] [(.ref b1)])) t
      refine XS.dup X1.here hx rfl (hb hby own_d_prog_7_method_9_code_3) rfl rfl ?_
      show Steps p.tables e below (T1.setTop (mkF m 4 #[.val (.ref b), .val (.int (0 : Int32))] [(.ref b1), (.ref b1)])) t
      refine XS.aloadN X1.here hx rfl (hb hby own_d_prog_7_method_9_code_4) rfl rfl ?_
      show Steps p.tables e below (T1.setTop (mkF m 5 #[.val (.ref b), .val (.int (0 : Int32))] [(.ref b), (.ref b1), (.ref b1)])) t
      exact st4 t k)
  have cf6 := (F_verifier.keep Kp1 nin0)
  obtain ⟨T7, X7, e7, st7⟩ := getF X4 hx hZ hown (host := "") (Or.inl (hw _ (List.mem_of_getElem? (i := 62) rfl))) Via.refl e4 cf6 (g := (mkF m 9 #[.val (.ref b), .val (.int (0 : Int32))] [(.ref b), (.ref ow), (.ref b1), (.ref b1)])) rfl rfl (hb hby own_d_prog_7_method_9_code_9)
  have ch8 : ∀ t, Steps p.tables e below (T7.setTop (mkF m 12 #[.val (.ref b), .val (.int (0 : Int32))] [(.ref ve), (.ref ow), (.ref b1), (.ref b1)])) t → Steps p.tables e below (s₁.setTop (entryFrame m #[(.ref b), (.int (0 : Int32))] 2)) t := fun t k => ch5 t (by
      show Steps p.tables e below (T4.setTop (mkF m 8 #[.val (.ref b), .val (.int (0 : Int32))] [(.ref ow), (.ref b1), (.ref b1)])) t
      refine XS.aloadN X4.here hx rfl (hb hby own_d_prog_7_method_9_code_8) rfl rfl ?_
      show Steps p.tables e below (T4.setTop (mkF m 9 #[.val (.ref b), .val (.int (0 : Int32))] [(.ref b), (.ref ow), (.ref b1), (.ref b1)])) t
      exact st7 t k)
  have cf9 := (F_locksRevoked.keep Kp1 nin0)
  obtain ⟨T10, X10, e10, st10⟩ := getF X7 hx hZ hown (host := "") (Or.inl (hw _ (List.mem_of_getElem? (i := 64) rfl))) Via.refl e7 cf9 (g := (mkF m 13 #[.val (.ref b), .val (.int (0 : Int32))] [(.ref b), (.ref ve), (.ref ow), (.ref b1), (.ref b1)])) rfl rfl (hb hby own_d_prog_7_method_9_code_13)
  have ch11 : ∀ t, Steps p.tables e below (T10.setTop (mkF m 16 #[.val (.ref b), .val (.int (0 : Int32))] [(.int (1 : Int32)), (.ref ve), (.ref ow), (.ref b1), (.ref b1)])) t → Steps p.tables e below (s₁.setTop (entryFrame m #[(.ref b), (.int (0 : Int32))] 2)) t := fun t k => ch8 t (by
      show Steps p.tables e below (T7.setTop (mkF m 12 #[.val (.ref b), .val (.int (0 : Int32))] [(.ref ve), (.ref ow), (.ref b1), (.ref b1)])) t
      refine XS.aloadN X7.here hx rfl (hb hby own_d_prog_7_method_9_code_12) rfl rfl ?_
      show Steps p.tables e below (T7.setTop (mkF m 13 #[.val (.ref b), .val (.int (0 : Int32))] [(.ref b), (.ref ve), (.ref ow), (.ref b1), (.ref b1)])) t
      exact st10 t k)
  have cf12 := (Exa.keep Eo Kp1)
  have cf13 := (Exa.keep Ev Kp1)
  obtain ⟨vv14, _, ⟨T14, L14, kk14, nn14⟩, -, X14, hS2, hgr, ⟨Lc14, hQ14, l14, y14, z14⟩, st14⟩ := X10.specialBackS hx (y := (⟨"com/example/nokkel/nokkel/core/ClientRecord", "<init>", "(Ljava/lang/String;Ljava/lang/String;ZZ)V"⟩ : MethodName)) rfl hown (mvT hZ (hw _ (List.mem_of_getElem? (i := 79) rfl))) (mvT hZ (hw _ (List.mem_of_getElem? (i := 48) rfl))) (mvT hZ (hw _ (List.mem_of_getElem? (i := 49) rfl))) (by decide) (backOfS (W := 1) (own_ini_10 l Z a0 hw [] hp1 n0 (Nat.le_trans Z0 Kp1.1) b1 ow ve A1 F1_60 F1_63 F1_65 F1_67 g_b1 cf12 cf13) hZ (hw _ (List.mem_of_getElem? (i := 49) rfl)) (hw _ (List.mem_of_getElem? (i := 46) rfl)) (by decide) (by decide)) (g := (mkF m 17 #[.val (.ref b), .val (.int (0 : Int32))] [(.int (0 : Int32)), (.int (1 : Int32)), (.ref ve), (.ref ow), (.ref b1), (.ref b1)])) rfl (by rw [hml]; rfl) (Steps.refl _) (a := b1) (argsL := [(.ref ow), (.ref ve), (.int (1 : Int32)), (.int (0 : Int32))]) (rest := [(.ref b1)]) (lenOf own_pd__Ljava_lang_String_Ljava_lang_String_ZZ_V rfl) rfl (by show 2 * 0 + _ ≤ _; exact Nat.le_of_eq rfl) (hb hby own_d_prog_7_method_9_code_17) (fun _ _ => ⟨rfl, e10, (by decide : 1 + 4 ≤ _), (by decide : 4 + 60 ≤ _)⟩)
  dsimp only [Pt.U, Pt.locs, Pt.cells, Pt.slots] at X14 l14 y14 z14 st14 hQ14 hS2 hgr
  subst l14 y14 z14
  obtain ⟨X14, hS, hZ, hown⟩ := rebS hS (by rw [e10]; exact hk) X14 hS2 hgr hZ hown
  obtain ⟨hh14, eh14⟩ : ∃ h, T14.heap = h := ⟨_, rfl⟩
  rw [eh14] at hQ14
  rw [eh14] at hS
  have hk : hh14.size ≤ hh14.size := Nat.le_refl _
  obtain ⟨rfl, Nq14, Kq14, fq14_0, fq14_1, fq14_2, fq14_3, fq14_4⟩ := hQ14
  have N14 := Fr.app N0 Nq14
  have Kp14 := Keep.trans Kp1 Kq14 (allS (Or.inr sz_b1) all0)
  have ch15 : ∀ t, Steps p.tables e below (T14.setTop (mkF m 20 #[.val (.ref b), .val (.int (0 : Int32))] [(.ref b1)])) t → Steps p.tables e below (s₁.setTop (entryFrame m #[(.ref b), (.int (0 : Int32))] 2)) t := fun t k => ch11 t (by
      show Steps p.tables e below (T10.setTop (mkF m 16 #[.val (.ref b), .val (.int (0 : Int32))] [(.int (1 : Int32)), (.ref ve), (.ref ow), (.ref b1), (.ref b1)])) t
      refine XS.iloadN X10.here hx rfl (hb hby own_d_prog_7_method_9_code_16) rfl ?_
      show Steps p.tables e below (T10.setTop (mkF m 17 #[.val (.ref b), .val (.int (0 : Int32))] [(.int (0 : Int32)), (.int (1 : Int32)), (.ref ve), (.ref ow), (.ref b1), (.ref b1)])) t
      exact st14.trans k)
  obtain ⟨fs, hr, hrun, hended, hend⟩ := X14.leaveW hS (by rw [eh14]; exact hk) (v := some (.ref b1)) (fun h => by rw [Bd.returns] at h; cases h)
  refine ⟨_, _, ch15 _ ?_, hrun, hended, _, _, rfl, ?_, hend.1, hend.2.1, hend.2.2.1, hend.2.2.2.mono (by decide) (by decide)⟩
  · show Steps p.tables e below (T14.setTop (mkF m 20 #[.val (.ref b), .val (.int (0 : Int32))] [(.ref b1)])) _
    jvm_step X14.here [X14.here.top, hx, (hb hby own_d_prog_7_method_9_code_20), X14.method', Bd.returns, Value.isRef, FieldType.isReference]
    first | (intro acts; rw [hr _ acts rfl rfl rfl]) | rw [hr _ _ rfl rfl rfl]
    exact Steps.refl _
  · show QCw Z ow ve (1 : Int32) (0 : Int32) h0 n0 _ T14.heap _
    rw [eh14]
    exact ⟨_, rfl, sz_b1, N14, Kp14, fq14_0, fq14_1, fq14_2, fq14_3, fq14_4⟩
theorem own_ef_own_law_00 (m : MethodId) {x0 : Int32} {x1 : Int32} {x2 : Int32} : entryFrame m #[(.int x0), (.int x1), (.int x2)] maxLocals = mkF m 0 #[.val (.int x0), .val (.int x1), .val (.int x2), .unset, .unset, .unset, .unset, .unset, .unset, .unset, .unset] [] := by first | (simp [entryFrame, mkF, argsToLocals, Value.category, maxLocals]; done) | rfl
set_option maxRecDepth 65536 in
set_option maxHeartbeats 40000000 in
theorem own_law_00 (l : Launch) (Z : State) (a0 : Array Value) (hw : ∀ d ∈ tables_1, d.before a0 Z = true) (ws : List Jvm.Cond) (h0 : Heap) (n0 : Nat) (Z0 : n0 ≤ h0.size) (p1 p2 p3 : Int32) (s0 : (p1 &&& (1 : Int32)) = (0 : Int32)) (s1 : (p1 &&& (2 : Int32)) = (0 : Int32)) (zC : Int32) (S_CS : Sta Z h0 "java/lang/String" "COMPACT_STRINGS" "Z" (.int zC)) (P5 : ¬ (zC = (0 : Int32))) :
    MetFree l x (head1 (Jvm.Cond.code x code maxLocals ret :: ws) room_1) (fun a U => a = #[(.int p1), (.int p2), (.int p3)] ∧ Z.Warmed39 U.vm ∧ U.heap = h0) (fun _ _ _ _ _ => True) (fun _ U o U' => ∃ v L, o = .returned v ∧ QN (some (.int (1 : Int32))) n0 v U'.heap L ∧ ReturnedEndW U o U' L room_1.cells room_1.slots) := by
  refine MetFree.of_bodySF (plainFor_of_name own_pn_com_example_nokkel_nokkel_core_ClientRecordIsMarkedPinLaw) hisR ?_
  intro p e s m args below meth c s₁ Bd hml0 hP hK
  obtain ⟨rfl, hZ, hh⟩ := hP
  have hx := Bd.exec
  have hby := Bd.bytes
  have hml : c.maxLocals = 11 := hml0
  have hown : s.vm.findClass "com/example/nokkel/nokkel/core/ClientRecordIsMarkedPinLaw" = some m.cls := findClass_of_methodNamed Bd.named
  have hnm := (name_of_methodNamed Bd.named Bd.method).1
  have X0 : Stand p l e room_1 (s.setVm s.vm) m #[(.int p1), (.int p2), (.int p3)] below meth c s₁ [] 0 0 := Stand.of_body Bd
  have hZ : Z.Warmed39 (s.setVm s.vm).vm := hZ
  have hown : (s.setVm s.vm).vm.findClass "com/example/nokkel/nokkel/core/ClientRecordIsMarkedPinLaw" = some m.cls := hown
  have hS : s.Since s.vm 0 := (State.WarmedH.refl s).since 0
  have hk : 0 ≤ h0.size := Nat.zero_le _
  have e0 : s₁.heap = h0 := by rw [← hh, Bd.state]; rfl
  have N0 := Fr.nil n0
  have pre0 : ∀ t, Steps p.tables e below (s₁.setTop (mkF m 0 #[.val (.int p1), .val (.int p2), .val (.int p3), .unset, .unset, .unset, .unset, .unset, .unset, .unset, .unset] [])) t → Steps p.tables e below (s₁.setTop (entryFrame m #[(.int p1), (.int p2), (.int p3)] maxLocals)) t := fun t k => castTop (own_ef_own_law_00 m) k
  obtain ⟨T1, hp1, k1, X1, e1, E1, A1, st1⟩ := newP X0 hx hZ (hw _ (List.mem_of_getElem? (i := 0) rfl)) e0 (g := (mkF m 26 #[.val (.int p1), .val (.int p2), .val (.int p3), .val (.int (0 : Int32)), .val (.int (0 : Int32)), .unset, .unset, .unset, .unset, .unset, .unset] [(.int (1 : Int32))])) rfl (hb hby at_26) rfl (by decide) (cap := 1) (by decide) (by decide) (by decide) (by decide)
  obtain ⟨b1, g1⟩ : ∃ z, z = h0.size := ⟨_, rfl⟩
  rw [← g1] at A1 st1
  have g_b1 : n0 ≤ b1 := Nat.le_trans (Nat.le_trans Z0 (Keep.refl h0 []).1) (Nat.le_of_eq g1.symm)
  have sz_b1 : h0.size ≤ b1 := Nat.le_trans (Keep.refl h0 []).1 (Nat.le_of_eq g1.symm)
  have hk := Nat.le_trans hk E1.1
  have Kp1 := Keep.ext (Keep.refl h0 []) E1
  have V1 : Arv Z hp1 b1 k1 .char (1 : Int32) [(.int (0 : Int32))] (.int (0 : Int32)) := (Arv.new A1 (by decide)).pad (pad_rep [] (.int (0 : Int32)) 1)
  have ch2 : ∀ t, Steps p.tables e below (T1.setTop (mkF m 28 #[.val (.int p1), .val (.int p2), .val (.int p3), .val (.int (0 : Int32)), .val (.int (0 : Int32)), .unset, .unset, .unset, .unset, .unset, .unset] [(.ref b1)])) t → Steps p.tables e below (s₁.setTop (entryFrame m #[(.int p1), (.int p2), (.int p3)] maxLocals)) t := fun t k => pre0 t (by
      show Steps p.tables e below (s₁.setTop (mkF m 0 #[.val (.int p1), .val (.int p2), .val (.int p3), .unset, .unset, .unset, .unset, .unset, .unset, .unset, .unset] [])) t
      refine XS.iloadN X0.here hx rfl (hb hby at_0) rfl ?_
      show Steps p.tables e below (s₁.setTop (mkF m 1 #[.val (.int p1), .val (.int p2), .val (.int p3), .unset, .unset, .unset, .unset, .unset, .unset, .unset, .unset] [(.int p1)])) t
      refine XS.iconst X0.here hx rfl (hb hby at_1) ?_
      show Steps p.tables e below (s₁.setTop (mkF m 2 #[.val (.int p1), .val (.int p2), .val (.int p3), .unset, .unset, .unset, .unset, .unset, .unset, .unset, .unset] [(.int (1 : Int32)), (.int p1)])) t
      refine XS.iand X0.here hx rfl (hb hby at_2) rfl ?_
      show Steps p.tables e below (s₁.setTop (mkF m 3 #[.val (.int p1), .val (.int p2), .val (.int p3), .unset, .unset, .unset, .unset, .unset, .unset, .unset, .unset] [(.int (p1 &&& (1 : Int32)))])) t
      refine XS.ifYes X0.here hx rfl (pc0 := 3) (pc' := 10) rfl (hb hby at_3) rfl ((if0 _ _).trans (teq s0).1) (by decide) (by decide) ?_
      show Steps p.tables e below (s₁.setTop (mkF m 10 #[.val (.int p1), .val (.int p2), .val (.int p3), .unset, .unset, .unset, .unset, .unset, .unset, .unset, .unset] [])) t
      refine XS.iconst X0.here hx rfl (hb hby at_10) ?_
      show Steps p.tables e below (s₁.setTop (mkF m 11 #[.val (.int p1), .val (.int p2), .val (.int p3), .unset, .unset, .unset, .unset, .unset, .unset, .unset, .unset] [(.int (0 : Int32))])) t
      refine XS.istoreN X0.here hx rfl (hb hby at_11) rfl (l' := #[.val (.int p1), .val (.int p2), .val (.int p3), .val (.int (0 : Int32)), .unset, .unset, .unset, .unset, .unset, .unset, .unset]) rfl ?_
      show Steps p.tables e below (s₁.setTop (mkF m 12 #[.val (.int p1), .val (.int p2), .val (.int p3), .val (.int (0 : Int32)), .unset, .unset, .unset, .unset, .unset, .unset, .unset] [])) t
      refine XS.iloadN X0.here hx rfl (hb hby at_12) rfl ?_
      show Steps p.tables e below (s₁.setTop (mkF m 13 #[.val (.int p1), .val (.int p2), .val (.int p3), .val (.int (0 : Int32)), .unset, .unset, .unset, .unset, .unset, .unset, .unset] [(.int p1)])) t
      refine XS.iconst X0.here hx rfl (hb hby at_13) ?_
      show Steps p.tables e below (s₁.setTop (mkF m 14 #[.val (.int p1), .val (.int p2), .val (.int p3), .val (.int (0 : Int32)), .unset, .unset, .unset, .unset, .unset, .unset, .unset] [(.int (2 : Int32)), (.int p1)])) t
      refine XS.iand X0.here hx rfl (hb hby at_14) rfl ?_
      show Steps p.tables e below (s₁.setTop (mkF m 15 #[.val (.int p1), .val (.int p2), .val (.int p3), .val (.int (0 : Int32)), .unset, .unset, .unset, .unset, .unset, .unset, .unset] [(.int (p1 &&& (2 : Int32)))])) t
      refine XS.ifYes X0.here hx rfl (pc0 := 15) (pc' := 22) rfl (hb hby at_15) rfl ((if0 _ _).trans (teq s1).1) (by decide) (by decide) ?_
      show Steps p.tables e below (s₁.setTop (mkF m 22 #[.val (.int p1), .val (.int p2), .val (.int p3), .val (.int (0 : Int32)), .unset, .unset, .unset, .unset, .unset, .unset, .unset] [])) t
      refine XS.iconst X0.here hx rfl (hb hby at_22) ?_
      show Steps p.tables e below (s₁.setTop (mkF m 23 #[.val (.int p1), .val (.int p2), .val (.int p3), .val (.int (0 : Int32)), .unset, .unset, .unset, .unset, .unset, .unset, .unset] [(.int (0 : Int32))])) t
      refine XS.istore X0.here hx rfl (hb hby at_23) rfl (l' := #[.val (.int p1), .val (.int p2), .val (.int p3), .val (.int (0 : Int32)), .val (.int (0 : Int32)), .unset, .unset, .unset, .unset, .unset, .unset]) rfl ?_
      show Steps p.tables e below (s₁.setTop (mkF m 25 #[.val (.int p1), .val (.int p2), .val (.int p3), .val (.int (0 : Int32)), .val (.int (0 : Int32)), .unset, .unset, .unset, .unset, .unset, .unset] [])) t
      refine XS.iconst X0.here hx rfl (hb hby at_25) ?_
      show Steps p.tables e below (s₁.setTop (mkF m 26 #[.val (.int p1), .val (.int p2), .val (.int p3), .val (.int (0 : Int32)), .val (.int (0 : Int32)), .unset, .unset, .unset, .unset, .unset, .unset] [(.int (1 : Int32))])) t
      exact st1 t k)
  obtain ⟨cl3, Ar3, qq3, Sz3, Ng3, Ha3, Ga3⟩ := id V1
  have hin3 : ¬ ((0 : Int32) < 0 ∨ cl3.slots.size ≤ ((0 : Int32)).toNatClampNeg) := inb_of Sz3 (by decide)
  obtain ⟨T4, hp4, X4, e4, W4, st4⟩ := stC X1 hx hZ e1 Ar3 (j := (0 : Int32)) hin3 (g := (mkF m 39 #[.val (.int p1), .val (.int p2), .val (.int p3), .val (.int (0 : Int32)), .val (.int (0 : Int32)), .val (.ref b1), .unset, .unset, .unset, .unset, .unset] [(.int ((p2 &&& (255 : Int32)).toUInt32.toUInt16.toUInt32.toInt32)), (.int (0 : Int32)), (.ref b1)])) rfl rfl (hb hby at_39)
  have ch5 : ∀ t, Steps p.tables e below (T4.setTop (mkF m 40 #[.val (.int p1), .val (.int p2), .val (.int p3), .val (.int (0 : Int32)), .val (.int (0 : Int32)), .val (.ref b1), .unset, .unset, .unset, .unset, .unset] [])) t → Steps p.tables e below (s₁.setTop (entryFrame m #[(.int p1), (.int p2), (.int p3)] maxLocals)) t := fun t k => ch2 t (by
      show Steps p.tables e below (T1.setTop (mkF m 28 #[.val (.int p1), .val (.int p2), .val (.int p3), .val (.int (0 : Int32)), .val (.int (0 : Int32)), .unset, .unset, .unset, .unset, .unset, .unset] [(.ref b1)])) t
      refine XS.astore X1.here hx rfl (hb hby at_28) rfl rfl (l' := #[.val (.int p1), .val (.int p2), .val (.int p3), .val (.int (0 : Int32)), .val (.int (0 : Int32)), .val (.ref b1), .unset, .unset, .unset, .unset, .unset]) rfl ?_
      show Steps p.tables e below (T1.setTop (mkF m 30 #[.val (.int p1), .val (.int p2), .val (.int p3), .val (.int (0 : Int32)), .val (.int (0 : Int32)), .val (.ref b1), .unset, .unset, .unset, .unset, .unset] [])) t
      refine XS.aload X1.here hx rfl (hb hby at_30) rfl rfl ?_
      show Steps p.tables e below (T1.setTop (mkF m 32 #[.val (.int p1), .val (.int p2), .val (.int p3), .val (.int (0 : Int32)), .val (.int (0 : Int32)), .val (.ref b1), .unset, .unset, .unset, .unset, .unset] [(.ref b1)])) t
      refine XS.iconst X1.here hx rfl (hb hby at_32) ?_
      show Steps p.tables e below (T1.setTop (mkF m 33 #[.val (.int p1), .val (.int p2), .val (.int p3), .val (.int (0 : Int32)), .val (.int (0 : Int32)), .val (.ref b1), .unset, .unset, .unset, .unset, .unset] [(.int (0 : Int32)), (.ref b1)])) t
      refine XS.iloadN X1.here hx rfl (hb hby at_33) rfl ?_
      show Steps p.tables e below (T1.setTop (mkF m 34 #[.val (.int p1), .val (.int p2), .val (.int p3), .val (.int (0 : Int32)), .val (.int (0 : Int32)), .val (.ref b1), .unset, .unset, .unset, .unset, .unset] [(.int p2), (.int (0 : Int32)), (.ref b1)])) t
      refine XS.sipush X1.here hx rfl (hb hby at_34) ?_
      show Steps p.tables e below (T1.setTop (mkF m 37 #[.val (.int p1), .val (.int p2), .val (.int p3), .val (.int (0 : Int32)), .val (.int (0 : Int32)), .val (.ref b1), .unset, .unset, .unset, .unset, .unset] [(.int (255 : Int32)), (.int p2), (.int (0 : Int32)), (.ref b1)])) t
      refine XS.iand X1.here hx rfl (hb hby at_37) rfl ?_
      show Steps p.tables e below (T1.setTop (mkF m 38 #[.val (.int p1), .val (.int p2), .val (.int p3), .val (.int (0 : Int32)), .val (.int (0 : Int32)), .val (.ref b1), .unset, .unset, .unset, .unset, .unset] [(.int (p2 &&& (255 : Int32))), (.int (0 : Int32)), (.ref b1)])) t
      refine XS.i2c X1.here hx rfl (hb hby at_38) rfl ?_
      show Steps p.tables e below (T1.setTop (mkF m 39 #[.val (.int p1), .val (.int p2), .val (.int p3), .val (.int (0 : Int32)), .val (.int (0 : Int32)), .val (.ref b1), .unset, .unset, .unset, .unset, .unset] [(.int ((p2 &&& (255 : Int32)).toUInt32.toUInt16.toUInt32.toInt32)), (.int (0 : Int32)), (.ref b1)])) t
      exact st4 t k)
  have V4 : Arv Z hp4 b1 k1 .char (1 : Int32) [(.int (nar .char ((p2 &&& (255 : Int32)).toUInt32.toUInt16.toUInt32.toInt32)))] (.int (0 : Int32)) := Arv.set Ar3 qq3 Sz3 Ng3 Ha3 Ga3 (fits_nar_char _) W4 0 rfl (Nat.le_of_ble_eq_true rfl)
  have hk := Nat.le_trans hk (Keep.of_wr W4).1
  have N4 := Fr.snoc X4 N0 g_b1
  have Kp4 := Keep.wr Kp1 W4 (Or.inr sz_b1)
  obtain ⟨T6, hp6, X6, e6, E6, A6, D6, -, st6⟩ := newO X4 hx hZ hown (hw _ (List.mem_of_getElem? (i := 1) rfl)) (hw _ (List.mem_of_getElem? (i := 2) rfl)) (hw _ (List.mem_of_getElem? (i := 3) rfl)) e4 (g := (mkF m 40 #[.val (.int p1), .val (.int p2), .val (.int p3), .val (.int (0 : Int32)), .val (.int (0 : Int32)), .val (.ref b1), .unset, .unset, .unset, .unset, .unset] [])) rfl (hb hby at_40) (by decide) (by decide)
  obtain ⟨b6, g6⟩ : ∃ z, z = hp4.size := ⟨_, rfl⟩
  rw [← g6] at A6 D6 st6
  have ne_b1_b6 : b1 ≠ b6 := Nat.ne_of_lt (Nat.lt_of_lt_of_le V4.lt (Nat.le_of_eq g6.symm))
  have g_b6 : n0 ≤ b6 := Nat.le_trans (Nat.le_trans Z0 Kp4.1) (Nat.le_of_eq g6.symm)
  have sz_b6 : h0.size ≤ b6 := Nat.le_trans Kp4.1 (Nat.le_of_eq g6.symm)
  have hk := Nat.le_trans hk E6.1
  have Kp6 := Keep.ext Kp4 E6
  have F6_27 : Fld Z hp6 b6 "java/lang/String" "coder" "B" (.int (0 : Int32)) := D6 (Or.inr (hw _ (List.mem_of_getElem? (i := 27) rfl))) (ty := .byte) (by decide)
  have F6_29 : Fld Z hp6 b6 "java/lang/String" "value" "[B" .null := D6 (Or.inr (hw _ (List.mem_of_getElem? (i := 29) rfl))) (ty := (.array .byte)) (by decide)
  have ch7 : ∀ t, Steps p.tables e below (T6.setTop (mkF m 43 #[.val (.int p1), .val (.int p2), .val (.int p3), .val (.int (0 : Int32)), .val (.int (0 : Int32)), .val (.ref b1), .unset, .unset, .unset, .unset, .unset] [(.ref b6)])) t → Steps p.tables e below (s₁.setTop (entryFrame m #[(.int p1), (.int p2), (.int p3)] maxLocals)) t := fun t k => ch5 t (by
      show Steps p.tables e below (T4.setTop (mkF m 40 #[.val (.int p1), .val (.int p2), .val (.int p3), .val (.int (0 : Int32)), .val (.int (0 : Int32)), .val (.ref b1), .unset, .unset, .unset, .unset, .unset] [])) t
      exact st6 t k)
  have hp8 : ∀ c ∈ ([(nar .char ((p2 &&& (255 : Int32)).toUInt32.toUInt16.toUInt32.toInt32))] : List Int32), ¬ c < 0 ∧ ¬ (255 : Int32) < c := by
    intro c hc
    simp only [List.mem_cons, List.not_mem_nil, or_false] at hc
    rcases hc with rfl
    · exact own_chr p2
  have cf9 := (V4.ext E6)
  have cf10 := (own_sta_keep S_CS Kp6 all0)
  obtain ⟨vv11, _, ⟨T11, L11, kk11, nn11⟩, -, X11, ⟨Lc11, hQ11, l11, y11, z11⟩, st11⟩ := X6.specialBack hx (y := (⟨"java/lang/String", "<init>", "([C)V"⟩ : MethodName)) rfl hown (mvT hZ (hw _ (List.mem_of_getElem? (i := 4) rfl))) (mvT hZ (hw _ (List.mem_of_getElem? (i := 5) rfl))) (mvT hZ (hw _ (List.mem_of_getElem? (i := 6) rfl))) (by decide) (StrChars.Road.backV (W := 1) hZ (own_words hw) (kI := 4) (hw _ (List.mem_of_getElem? (i := 2) rfl)) (cs := ([(nar .char ((p2 &&& (255 : Int32)).toUInt32.toUInt16.toUInt32.toInt32))] : List Int32)) (bs := (([(nar .char ((p2 &&& (255 : Int32)).toUInt32.toUInt16.toUInt32.toInt32))] : List Int32)).map (fun c => c.toInt8.toInt32)) (n := 1) g_b6 (Nat.le_trans Z0 Kp6.1) A6 F6_29 F6_27 cf9 cf10 P5 rfl rfl (by decide) (by decide) hp8 rfl (by decide) (by decide)) (g := (mkF m 46 #[.val (.int p1), .val (.int p2), .val (.int p3), .val (.int (0 : Int32)), .val (.int (0 : Int32)), .val (.ref b1), .unset, .unset, .unset, .unset, .unset] [(.ref b1), (.ref b6), (.ref b6)])) rfl (by rw [hml]; rfl) (Steps.refl _) (a := b6) (argsL := [(.ref b1)]) (rest := [(.ref b6)]) (lenOf own_pd___C_V rfl) rfl (by show 2 * 0 + _ ≤ _; exact Nat.le_of_eq rfl) (hb hby at_46) (fun _ _ => ⟨rfl, e6, (by decide : 2 + 1 ≤ _), (by decide : 5 + 1 ≤ _)⟩)
  dsimp only [Pt.U, Pt.locs, Pt.cells, Pt.slots] at X11 l11 y11 z11 st11 hQ11
  subst l11 y11 z11
  obtain ⟨hh11, eh11⟩ : ∃ h, T11.heap = h := ⟨_, rfl⟩
  rw [eh11] at hQ11
  obtain ⟨rfl, Nq11, Kq11, fq11_0, fq11_1⟩ := hQ11
  have N11 := Fr.app N4 Nq11
  have hk := Nat.le_trans hk Kq11.1
  have Kp11 := Keep.trans Kp6 Kq11 (allS (Or.inr sz_b6) all0)
  have ch12 : ∀ t, Steps p.tables e below (T11.setTop (mkF m 49 #[.val (.int p1), .val (.int p2), .val (.int p3), .val (.int (0 : Int32)), .val (.int (0 : Int32)), .val (.ref b1), .unset, .unset, .unset, .unset, .unset] [(.ref b6)])) t → Steps p.tables e below (s₁.setTop (entryFrame m #[(.int p1), (.int p2), (.int p3)] maxLocals)) t := fun t k => ch7 t (by
      show Steps p.tables e below (T6.setTop (mkF m 43 #[.val (.int p1), .val (.int p2), .val (.int p3), .val (.int (0 : Int32)), .val (.int (0 : Int32)), .val (.ref b1), .unset, .unset, .unset, .unset, .unset] [(.ref b6)])) t
      refine XS.dup X6.here hx rfl (hb hby at_43) rfl rfl ?_
      show Steps p.tables e below (T6.setTop (mkF m 44 #[.val (.int p1), .val (.int p2), .val (.int p3), .val (.int (0 : Int32)), .val (.int (0 : Int32)), .val (.ref b1), .unset, .unset, .unset, .unset, .unset] [(.ref b6), (.ref b6)])) t
      refine XS.aload X6.here hx rfl (hb hby at_44) rfl rfl ?_
      show Steps p.tables e below (T6.setTop (mkF m 46 #[.val (.int p1), .val (.int p2), .val (.int p3), .val (.int (0 : Int32)), .val (.int (0 : Int32)), .val (.ref b1), .unset, .unset, .unset, .unset, .unset] [(.ref b1), (.ref b6), (.ref b6)])) t
      exact st11.trans k)
  have cf13 := (own_sta_keep cf10 Kq11 (allS (fun c hc => own_exa_plain A6 c hc) all0))
  obtain ⟨vv14, _, ⟨T14, L14, kk14, nn14⟩, -, X14, ⟨Lc14, hQ14, l14, y14, z14⟩, st14⟩ := Jvm.LawKit.callS X11 hx (y := (⟨"java/lang/String", "valueOf", "(C)Ljava/lang/String;"⟩ : MethodName)) hown (mvT hZ (hw _ (List.mem_of_getElem? (i := 30) rfl))) (mvT hZ (hw _ (List.mem_of_getElem? (i := 31) rfl))) (mvT hZ (hw _ (List.mem_of_getElem? (i := 3) rfl))) (mvT hZ (hw _ (List.mem_of_getElem? (i := 32) rfl))) (by decide) (backOf (W := 0) (own_vof l Z a0 hw [] hh11 n0 (Nat.le_trans Z0 Kp11.1) ((p3 &&& (255 : Int32)).toUInt32.toUInt16.toUInt32.toInt32) (own_chr2 p3) zC cf13 P5) hZ (hw _ (List.mem_of_getElem? (i := 32) rfl)) (hw _ (List.mem_of_getElem? (i := 3) rfl)) (by decide) (by decide)) (g := (mkF m 57 #[.val (.int p1), .val (.int p2), .val (.int p3), .val (.int (0 : Int32)), .val (.int (0 : Int32)), .val (.ref b1), .val (.ref b6), .unset, .unset, .unset, .unset] [(.int ((p3 &&& (255 : Int32)).toUInt32.toUInt16.toUInt32.toInt32))])) rfl (by rw [hml]; rfl) (argsL := [(.int ((p3 &&& (255 : Int32)).toUInt32.toUInt16.toUInt32.toInt32))]) (rest := []) (lenOf own_pd__C_Ljava_lang_String_ rfl) rfl (by show 2 * 0 + _ ≤ _; exact Nat.le_of_eq rfl) (hb hby at_57) (fun _ _ => ⟨rfl, eh11, (by decide : 3 + 2 ≤ _), (by decide : 6 + 5 ≤ _)⟩)
  dsimp only [Pt.U, Pt.locs, Pt.cells, Pt.slots] at X14 l14 y14 z14 st14 hQ14
  subst l14 y14 z14
  obtain ⟨hh14, eh14⟩ : ∃ h, T14.heap = h := ⟨_, rfl⟩
  rw [eh14] at hQ14
  obtain ⟨vs, rfl, zq14, Nq14, Kq14, fq14_0⟩ := hQ14
  have N14 := Fr.app N11 Nq14
  have hk := Nat.le_trans hk Kq14.1
  have cf15 := (cf9.keep Kq11 (ninS ne_b1_b6 nin0))
  have ne_b1_vs : b1 ≠ vs := Nat.ne_of_lt (Nat.lt_of_lt_of_le cf15.lt zq14)
  have ne_b6_vs : b6 ≠ vs := Nat.ne_of_lt (Nat.lt_of_lt_of_le fq11_0.lt zq14)
  have g_vs : n0 ≤ vs := Nat.le_trans (Nat.le_trans Z0 Kp11.1) zq14
  have sz_vs : h0.size ≤ vs := Nat.le_trans Kp11.1 zq14
  have Kp14 := Keep.trans Kp11 Kq14 all0
  have ch16 : ∀ t, Steps p.tables e below (T14.setTop (mkF m 60 #[.val (.int p1), .val (.int p2), .val (.int p3), .val (.int (0 : Int32)), .val (.int (0 : Int32)), .val (.ref b1), .val (.ref b6), .unset, .unset, .unset, .unset] [(.ref vs)])) t → Steps p.tables e below (s₁.setTop (entryFrame m #[(.int p1), (.int p2), (.int p3)] maxLocals)) t := fun t k => ch12 t (by
      show Steps p.tables e below (T11.setTop (mkF m 49 #[.val (.int p1), .val (.int p2), .val (.int p3), .val (.int (0 : Int32)), .val (.int (0 : Int32)), .val (.ref b1), .unset, .unset, .unset, .unset, .unset] [(.ref b6)])) t
      refine XS.astore X11.here hx rfl (hb hby at_49) rfl rfl (l' := #[.val (.int p1), .val (.int p2), .val (.int p3), .val (.int (0 : Int32)), .val (.int (0 : Int32)), .val (.ref b1), .val (.ref b6), .unset, .unset, .unset, .unset]) rfl ?_
      show Steps p.tables e below (T11.setTop (mkF m 51 #[.val (.int p1), .val (.int p2), .val (.int p3), .val (.int (0 : Int32)), .val (.int (0 : Int32)), .val (.ref b1), .val (.ref b6), .unset, .unset, .unset, .unset] [])) t
      refine XS.iloadN X11.here hx rfl (hb hby at_51) rfl ?_
      show Steps p.tables e below (T11.setTop (mkF m 52 #[.val (.int p1), .val (.int p2), .val (.int p3), .val (.int (0 : Int32)), .val (.int (0 : Int32)), .val (.ref b1), .val (.ref b6), .unset, .unset, .unset, .unset] [(.int p3)])) t
      refine XS.sipush X11.here hx rfl (hb hby at_52) ?_
      show Steps p.tables e below (T11.setTop (mkF m 55 #[.val (.int p1), .val (.int p2), .val (.int p3), .val (.int (0 : Int32)), .val (.int (0 : Int32)), .val (.ref b1), .val (.ref b6), .unset, .unset, .unset, .unset] [(.int (255 : Int32)), (.int p3)])) t
      refine XS.iand X11.here hx rfl (hb hby at_55) rfl ?_
      show Steps p.tables e below (T11.setTop (mkF m 56 #[.val (.int p1), .val (.int p2), .val (.int p3), .val (.int (0 : Int32)), .val (.int (0 : Int32)), .val (.ref b1), .val (.ref b6), .unset, .unset, .unset, .unset] [(.int (p3 &&& (255 : Int32)))])) t
      refine XS.i2c X11.here hx rfl (hb hby at_56) rfl ?_
      show Steps p.tables e below (T11.setTop (mkF m 57 #[.val (.int p1), .val (.int p2), .val (.int p3), .val (.int (0 : Int32)), .val (.int (0 : Int32)), .val (.ref b1), .val (.ref b6), .unset, .unset, .unset, .unset] [(.int ((p3 &&& (255 : Int32)).toUInt32.toUInt16.toUInt32.toInt32))])) t
      exact st14 t k)
  obtain ⟨T17, hp17, X17, e17, E17, A17, D17, -, st17⟩ := newO X14 hx hZ hown (hw _ (List.mem_of_getElem? (i := 44) rfl)) (hw _ (List.mem_of_getElem? (i := 45) rfl)) (hw _ (List.mem_of_getElem? (i := 46) rfl)) eh14 (g := (mkF m 62 #[.val (.int p1), .val (.int p2), .val (.int p3), .val (.int (0 : Int32)), .val (.int (0 : Int32)), .val (.ref b1), .val (.ref b6), .val (.ref vs), .unset, .unset, .unset] [])) rfl (hb hby at_62) (by decide) (by decide)
  obtain ⟨b17, g17⟩ : ∃ z, z = hh14.size := ⟨_, rfl⟩
  rw [← g17] at A17 D17 st17
  have cf18 := (cf15.keep Kq14 nin0)
  have ne_b1_b17 : b1 ≠ b17 := Nat.ne_of_lt (Nat.lt_of_lt_of_le cf18.lt (Nat.le_of_eq g17.symm))
  have cf19 := (fq11_0.keep Kq14)
  have ne_b6_b17 : b6 ≠ b17 := Nat.ne_of_lt (Nat.lt_of_lt_of_le cf19.lt (Nat.le_of_eq g17.symm))
  have ne_vs_b17 : vs ≠ b17 := Nat.ne_of_lt (Nat.lt_of_lt_of_le fq14_0.lt (Nat.le_of_eq g17.symm))
  have g_b17 : n0 ≤ b17 := Nat.le_trans (Nat.le_trans Z0 Kp14.1) (Nat.le_of_eq g17.symm)
  have sz_b17 : h0.size ≤ b17 := Nat.le_trans Kp14.1 (Nat.le_of_eq g17.symm)
  have hk := Nat.le_trans hk E17.1
  have Kp17 := Keep.ext Kp14 E17
  have F17_60 : Fld Z hp17 b17 "com/example/nokkel/nokkel/core/ClientRecord" "owner" "Ljava/lang/String;" .null := D17 (Or.inr (hw _ (List.mem_of_getElem? (i := 60) rfl))) (ty := (.object "java/lang/String")) (by decide)
  have F17_63 : Fld Z hp17 b17 "com/example/nokkel/nokkel/core/ClientRecord" "verifier" "Ljava/lang/String;" .null := D17 (Or.inr (hw _ (List.mem_of_getElem? (i := 63) rfl))) (ty := (.object "java/lang/String")) (by decide)
  have F17_65 : Fld Z hp17 b17 "com/example/nokkel/nokkel/core/ClientRecord" "locksRevoked" "Z" (.int (0 : Int32)) := D17 (Or.inr (hw _ (List.mem_of_getElem? (i := 65) rfl))) (ty := .boolean) (by decide)
  have F17_67 : Fld Z hp17 b17 "com/example/nokkel/nokkel/core/ClientRecord" "graceMissed" "Z" (.int (0 : Int32)) := D17 (Or.inr (hw _ (List.mem_of_getElem? (i := 67) rfl))) (ty := .boolean) (by decide)
  have ch20 : ∀ t, Steps p.tables e below (T17.setTop (mkF m 65 #[.val (.int p1), .val (.int p2), .val (.int p3), .val (.int (0 : Int32)), .val (.int (0 : Int32)), .val (.ref b1), .val (.ref b6), .val (.ref vs), .unset, .unset, .unset] [(.ref b17)])) t → Steps p.tables e below (s₁.setTop (entryFrame m #[(.int p1), (.int p2), (.int p3)] maxLocals)) t := fun t k => ch16 t (by
      show Steps p.tables e below (T14.setTop (mkF m 60 #[.val (.int p1), .val (.int p2), .val (.int p3), .val (.int (0 : Int32)), .val (.int (0 : Int32)), .val (.ref b1), .val (.ref b6), .unset, .unset, .unset, .unset] [(.ref vs)])) t
      refine XS.astore X14.here hx rfl (hb hby at_60) rfl rfl (l' := #[.val (.int p1), .val (.int p2), .val (.int p3), .val (.int (0 : Int32)), .val (.int (0 : Int32)), .val (.ref b1), .val (.ref b6), .val (.ref vs), .unset, .unset, .unset]) rfl ?_
      show Steps p.tables e below (T14.setTop (mkF m 62 #[.val (.int p1), .val (.int p2), .val (.int p3), .val (.int (0 : Int32)), .val (.int (0 : Int32)), .val (.ref b1), .val (.ref b6), .val (.ref vs), .unset, .unset, .unset] [])) t
      exact st17 t k)
  have cf21 := (cf19.ext E17)
  have cf22 := (fq14_0.ext E17)
  obtain ⟨vv23, _, ⟨T23, L23, kk23, nn23⟩, -, X23, hS2, hgr, ⟨Lc23, hQ23, l23, y23, z23⟩, st23⟩ := X17.specialBackS hx (y := (⟨"com/example/nokkel/nokkel/core/ClientRecord", "<init>", "(Ljava/lang/String;Ljava/lang/String;ZZ)V"⟩ : MethodName)) rfl hown (mvT hZ (hw _ (List.mem_of_getElem? (i := 47) rfl))) (mvT hZ (hw _ (List.mem_of_getElem? (i := 48) rfl))) (mvT hZ (hw _ (List.mem_of_getElem? (i := 49) rfl))) (by decide) (backOfS (W := 1) (own_ini_00 l Z a0 hw [] hp17 n0 (Nat.le_trans Z0 Kp17.1) b17 b6 vs A17 F17_60 F17_63 F17_65 F17_67 g_b17 cf21 cf22) hZ (hw _ (List.mem_of_getElem? (i := 49) rfl)) (hw _ (List.mem_of_getElem? (i := 46) rfl)) (by decide) (by decide)) (g := (mkF m 73 #[.val (.int p1), .val (.int p2), .val (.int p3), .val (.int (0 : Int32)), .val (.int (0 : Int32)), .val (.ref b1), .val (.ref b6), .val (.ref vs), .unset, .unset, .unset] [(.int (0 : Int32)), (.int (0 : Int32)), (.ref vs), (.ref b6), (.ref b17), (.ref b17)])) rfl (by rw [hml]; rfl) (Steps.refl _) (a := b17) (argsL := [(.ref b6), (.ref vs), (.int (0 : Int32)), (.int (0 : Int32))]) (rest := [(.ref b17)]) (lenOf own_pd__Ljava_lang_String_Ljava_lang_String_ZZ_V rfl) rfl (by show 2 * 0 + _ ≤ _; exact Nat.le_of_eq rfl) (hb hby at_73) (fun _ _ => ⟨rfl, e17, (by decide : 6 + 4 ≤ _), (by decide : 15 + 60 ≤ _)⟩)
  dsimp only [Pt.U, Pt.locs, Pt.cells, Pt.slots] at X23 l23 y23 z23 st23 hQ23 hS2 hgr
  subst l23 y23 z23
  obtain ⟨X23, hS, hZ, hown⟩ := rebS hS (by rw [e17]; exact hk) X23 hS2 hgr hZ hown
  obtain ⟨hh23, eh23⟩ : ∃ h, T23.heap = h := ⟨_, rfl⟩
  rw [eh23] at hQ23
  rw [eh23] at hS
  have hk : hh23.size ≤ hh23.size := Nat.le_refl _
  obtain ⟨rfl, Nq23, Kq23, fq23_0, fq23_1, fq23_2, fq23_3, fq23_4⟩ := hQ23
  have N23 := Fr.app N14 Nq23
  have Kp23 := Keep.trans Kp17 Kq23 (allS (Or.inr sz_b17) all0)
  have ch24 : ∀ t, Steps p.tables e below (T23.setTop (mkF m 76 #[.val (.int p1), .val (.int p2), .val (.int p3), .val (.int (0 : Int32)), .val (.int (0 : Int32)), .val (.ref b1), .val (.ref b6), .val (.ref vs), .unset, .unset, .unset] [(.ref b17)])) t → Steps p.tables e below (s₁.setTop (entryFrame m #[(.int p1), (.int p2), (.int p3)] maxLocals)) t := fun t k => ch20 t (by
      show Steps p.tables e below (T17.setTop (mkF m 65 #[.val (.int p1), .val (.int p2), .val (.int p3), .val (.int (0 : Int32)), .val (.int (0 : Int32)), .val (.ref b1), .val (.ref b6), .val (.ref vs), .unset, .unset, .unset] [(.ref b17)])) t
      refine XS.dup X17.here hx rfl (hb hby at_65) rfl rfl ?_
      show Steps p.tables e below (T17.setTop (mkF m 66 #[.val (.int p1), .val (.int p2), .val (.int p3), .val (.int (0 : Int32)), .val (.int (0 : Int32)), .val (.ref b1), .val (.ref b6), .val (.ref vs), .unset, .unset, .unset] [(.ref b17), (.ref b17)])) t
      refine XS.aload X17.here hx rfl (hb hby at_66) rfl rfl ?_
      show Steps p.tables e below (T17.setTop (mkF m 68 #[.val (.int p1), .val (.int p2), .val (.int p3), .val (.int (0 : Int32)), .val (.int (0 : Int32)), .val (.ref b1), .val (.ref b6), .val (.ref vs), .unset, .unset, .unset] [(.ref b6), (.ref b17), (.ref b17)])) t
      refine XS.aload X17.here hx rfl (hb hby at_68) rfl rfl ?_
      show Steps p.tables e below (T17.setTop (mkF m 70 #[.val (.int p1), .val (.int p2), .val (.int p3), .val (.int (0 : Int32)), .val (.int (0 : Int32)), .val (.ref b1), .val (.ref b6), .val (.ref vs), .unset, .unset, .unset] [(.ref vs), (.ref b6), (.ref b17), (.ref b17)])) t
      refine XS.iloadN X17.here hx rfl (hb hby at_70) rfl ?_
      show Steps p.tables e below (T17.setTop (mkF m 71 #[.val (.int p1), .val (.int p2), .val (.int p3), .val (.int (0 : Int32)), .val (.int (0 : Int32)), .val (.ref b1), .val (.ref b6), .val (.ref vs), .unset, .unset, .unset] [(.int (0 : Int32)), (.ref vs), (.ref b6), (.ref b17), (.ref b17)])) t
      refine XS.iload X17.here hx rfl (hb hby at_71) rfl ?_
      show Steps p.tables e below (T17.setTop (mkF m 73 #[.val (.int p1), .val (.int p2), .val (.int p3), .val (.int (0 : Int32)), .val (.int (0 : Int32)), .val (.ref b1), .val (.ref b6), .val (.ref vs), .unset, .unset, .unset] [(.int (0 : Int32)), (.int (0 : Int32)), (.ref vs), (.ref b6), (.ref b17), (.ref b17)])) t
      exact st23.trans k)
  have cf25 := (cf21.keep Kq23)
  have cf26 := (cf22.keep Kq23)
  obtain ⟨cq27, kq27, qa27, qb27, qc27⟩ := isOf hZ eh23 fq23_0
  obtain ⟨vv28, _, ⟨T28, L28, kk28, nn28⟩, -, X28, ⟨Lc28, hQ28, l28, y28, z28⟩, st28⟩ := X23.virtualBack hx (y := (⟨"com/example/nokkel/nokkel/core/ClientRecord", "isMarked", "()Z"⟩ : MethodName)) (z := (⟨"com/example/nokkel/nokkel/core/ClientRecord", "isMarked", "()Z"⟩ : MethodName)) hown (mvT hZ (hw _ (List.mem_of_getElem? (i := 68) rfl))) (mvT hZ (hw _ (List.mem_of_getElem? (i := 69) rfl))) (notFace_of_selects (args := #[]) (mvT hZ (hw _ (List.mem_of_getElem? (i := 71) rfl)))) (mvT hZ (hw _ (List.mem_of_getElem? (i := 71) rfl))) (mvT hZ (hw _ (List.mem_of_getElem? (i := 70) rfl))) (by decide) (backOf (W := 0) (own_mark_00 l Z a0 hw [] hh23 n0 (Nat.le_trans Z0 Kp23.1) b17 b6 vs fq23_1 fq23_2 fq23_3 fq23_4 cf25 cf26) hZ (hw _ (List.mem_of_getElem? (i := 72) rfl)) (hw _ (List.mem_of_getElem? (i := 46) rfl)) (by decide) (by decide)) qa27 qc27 (g := (mkF m 104 #[.val (.int p1), .val (.int p2), .val (.int p3), .val (.int (0 : Int32)), .val (.int (0 : Int32)), .val (.ref b1), .val (.ref b6), .val (.ref vs), .val (.ref b17), .val (.int (0 : Int32)), .unset] [(.ref b17)])) rfl (by rw [hml]; rfl) (Steps.refl _) (argsL := []) (rest := []) (lenOf own_pd___Z rfl) rfl (by show 2 * 0 + _ ≤ _; exact Nat.le_of_eq rfl) (hb hby at_104) (fun _ _ => ⟨rfl, eh23, (by decide : 10 + 0 ≤ _), (by decide : 75 + 0 ≤ _)⟩)
  dsimp only [Pt.U, Pt.locs, Pt.cells, Pt.slots] at X28 l28 y28 z28 st28 hQ28
  subst l28 y28 z28
  obtain ⟨rfl, Nq28, e28⟩ := hQ28
  have N28 := Fr.app N23 Nq28
  have ch29 : ∀ t, Steps p.tables e below (T28.setTop (mkF m 107 #[.val (.int p1), .val (.int p2), .val (.int p3), .val (.int (0 : Int32)), .val (.int (0 : Int32)), .val (.ref b1), .val (.ref b6), .val (.ref vs), .val (.ref b17), .val (.int (0 : Int32)), .unset] [(.int (0 : Int32))])) t → Steps p.tables e below (s₁.setTop (entryFrame m #[(.int p1), (.int p2), (.int p3)] maxLocals)) t := fun t k => ch24 t (by
      show Steps p.tables e below (T23.setTop (mkF m 76 #[.val (.int p1), .val (.int p2), .val (.int p3), .val (.int (0 : Int32)), .val (.int (0 : Int32)), .val (.ref b1), .val (.ref b6), .val (.ref vs), .unset, .unset, .unset] [(.ref b17)])) t
      refine XS.astore X23.here hx rfl (hb hby at_76) rfl rfl (l' := #[.val (.int p1), .val (.int p2), .val (.int p3), .val (.int (0 : Int32)), .val (.int (0 : Int32)), .val (.ref b1), .val (.ref b6), .val (.ref vs), .val (.ref b17), .unset, .unset]) rfl ?_
      show Steps p.tables e below (T23.setTop (mkF m 78 #[.val (.int p1), .val (.int p2), .val (.int p3), .val (.int (0 : Int32)), .val (.int (0 : Int32)), .val (.ref b1), .val (.ref b6), .val (.ref vs), .val (.ref b17), .unset, .unset] [])) t
      refine XS.iloadN X23.here hx rfl (hb hby at_78) rfl ?_
      show Steps p.tables e below (T23.setTop (mkF m 79 #[.val (.int p1), .val (.int p2), .val (.int p3), .val (.int (0 : Int32)), .val (.int (0 : Int32)), .val (.ref b1), .val (.ref b6), .val (.ref vs), .val (.ref b17), .unset, .unset] [(.int (0 : Int32))])) t
      refine XS.ifYes X23.here hx rfl (pc0 := 79) (pc' := 88) rfl (hb hby at_79) rfl ((if0 _ _).trans (teq (by decide : (0 : Int32) = (0 : Int32))).1) (by decide) (by decide) ?_
      show Steps p.tables e below (T23.setTop (mkF m 88 #[.val (.int p1), .val (.int p2), .val (.int p3), .val (.int (0 : Int32)), .val (.int (0 : Int32)), .val (.ref b1), .val (.ref b6), .val (.ref vs), .val (.ref b17), .unset, .unset] [])) t
      refine XS.iload X23.here hx rfl (hb hby at_88) rfl ?_
      show Steps p.tables e below (T23.setTop (mkF m 90 #[.val (.int p1), .val (.int p2), .val (.int p3), .val (.int (0 : Int32)), .val (.int (0 : Int32)), .val (.ref b1), .val (.ref b6), .val (.ref vs), .val (.ref b17), .unset, .unset] [(.int (0 : Int32))])) t
      refine XS.ifYes X23.here hx rfl (pc0 := 90) (pc' := 99) rfl (hb hby at_90) rfl ((if0 _ _).trans (teq (by decide : (0 : Int32) = (0 : Int32))).1) (by decide) (by decide) ?_
      show Steps p.tables e below (T23.setTop (mkF m 99 #[.val (.int p1), .val (.int p2), .val (.int p3), .val (.int (0 : Int32)), .val (.int (0 : Int32)), .val (.ref b1), .val (.ref b6), .val (.ref vs), .val (.ref b17), .unset, .unset] [])) t
      refine XS.iconst X23.here hx rfl (hb hby at_99) ?_
      show Steps p.tables e below (T23.setTop (mkF m 100 #[.val (.int p1), .val (.int p2), .val (.int p3), .val (.int (0 : Int32)), .val (.int (0 : Int32)), .val (.ref b1), .val (.ref b6), .val (.ref vs), .val (.ref b17), .unset, .unset] [(.int (0 : Int32))])) t
      refine XS.istore X23.here hx rfl (hb hby at_100) rfl (l' := #[.val (.int p1), .val (.int p2), .val (.int p3), .val (.int (0 : Int32)), .val (.int (0 : Int32)), .val (.ref b1), .val (.ref b6), .val (.ref vs), .val (.ref b17), .val (.int (0 : Int32)), .unset]) rfl ?_
      show Steps p.tables e below (T23.setTop (mkF m 102 #[.val (.int p1), .val (.int p2), .val (.int p3), .val (.int (0 : Int32)), .val (.int (0 : Int32)), .val (.ref b1), .val (.ref b6), .val (.ref vs), .val (.ref b17), .val (.int (0 : Int32)), .unset] [])) t
      refine XS.aload X23.here hx rfl (hb hby at_102) rfl rfl ?_
      show Steps p.tables e below (T23.setTop (mkF m 104 #[.val (.int p1), .val (.int p2), .val (.int p3), .val (.int (0 : Int32)), .val (.int (0 : Int32)), .val (.ref b1), .val (.ref b6), .val (.ref vs), .val (.ref b17), .val (.int (0 : Int32)), .unset] [(.ref b17)])) t
      exact st28.trans k)
  obtain ⟨cq30, kq30, qa30, qb30, qc30⟩ := isOf hZ e28 fq23_0
  obtain ⟨vv31, _, ⟨T31, L31, kk31, nn31⟩, -, X31, hS2, hgr, ⟨Lc31, hQ31, l31, y31, z31⟩, st31⟩ := X28.virtualBackS hx (y := (⟨"com/example/nokkel/nokkel/core/ClientRecord", "withLocksRevoked", "(Z)Lcom/example/nokkel/nokkel/core/ClientRecord;"⟩ : MethodName)) (z := (⟨"com/example/nokkel/nokkel/core/ClientRecord", "withLocksRevoked", "(Z)Lcom/example/nokkel/nokkel/core/ClientRecord;"⟩ : MethodName)) hown (mvT hZ (hw _ (List.mem_of_getElem? (i := 73) rfl))) (mvT hZ (hw _ (List.mem_of_getElem? (i := 74) rfl))) (notFace_of_selects (args := #[]) (mvT hZ (hw _ (List.mem_of_getElem? (i := 76) rfl)))) (mvT hZ (hw _ (List.mem_of_getElem? (i := 76) rfl))) (mvT hZ (hw _ (List.mem_of_getElem? (i := 75) rfl))) (by decide) (backOfS (W := 0) (own_wlr_00 l Z a0 hw [] hh23 n0 (Nat.le_trans Z0 Kp23.1) b17 b6 vs fq23_1 fq23_2 fq23_3 fq23_4 cf25 cf26) hZ (hw _ (List.mem_of_getElem? (i := 77) rfl)) (hw _ (List.mem_of_getElem? (i := 46) rfl)) (by decide) (by decide)) qa30 qc30 (g := (mkF m 117 #[.val (.int p1), .val (.int p2), .val (.int p3), .val (.int (0 : Int32)), .val (.int (0 : Int32)), .val (.ref b1), .val (.ref b6), .val (.ref vs), .val (.ref b17), .val (.int (0 : Int32)), .unset] [(.int (0 : Int32)), (.ref b17)])) rfl (by rw [hml]; rfl) (Steps.refl _) (argsL := [(.int (0 : Int32))]) (rest := []) (lenOf own_pd__Z_Lcom_example_nokkel_nokkel_core_ClientRecord_ rfl) rfl (by show 2 * 0 + _ ≤ _; exact Nat.le_of_eq rfl) (hb hby at_117) (fun _ _ => ⟨rfl, e28, (by decide : 10 + 5 ≤ _), (by decide : 75 + 64 ≤ _)⟩)
  dsimp only [Pt.U, Pt.locs, Pt.cells, Pt.slots] at X31 l31 y31 z31 st31 hQ31 hS2 hgr
  subst l31 y31 z31
  obtain ⟨X31, hS, hZ, hown⟩ := rebS hS (by rw [e28]; exact hk) X31 hS2 hgr hZ hown
  obtain ⟨hh31, eh31⟩ : ∃ h, T31.heap = h := ⟨_, rfl⟩
  rw [eh31] at hQ31
  rw [eh31] at hS
  have hk : hh31.size ≤ hh31.size := Nat.le_refl _
  obtain ⟨ra, rfl, zq31, Nq31, Kq31, fq31_0, fq31_1, fq31_2, fq31_3, fq31_4⟩ := hQ31
  have N31 := Fr.app N28 Nq31
  have cf32 := ((cf18.ext E17).keep Kq23 (ninS ne_b1_b17 nin0))
  have ne_b1_ra : b1 ≠ ra := Nat.ne_of_lt (Nat.lt_of_lt_of_le cf32.lt zq31)
  have ne_b6_ra : b6 ≠ ra := Nat.ne_of_lt (Nat.lt_of_lt_of_le cf25.lt zq31)
  have ne_vs_ra : vs ≠ ra := Nat.ne_of_lt (Nat.lt_of_lt_of_le cf26.lt zq31)
  have ne_b17_ra : b17 ≠ ra := Nat.ne_of_lt (Nat.lt_of_lt_of_le fq23_0.lt zq31)
  have g_ra : n0 ≤ ra := Nat.le_trans (Nat.le_trans Z0 Kp23.1) zq31
  have sz_ra : h0.size ≤ ra := Nat.le_trans Kp23.1 zq31
  have Kp31 := Keep.trans Kp23 Kq31 all0
  have ch33 : ∀ t, Steps p.tables e below (T31.setTop (mkF m 120 #[.val (.int p1), .val (.int p2), .val (.int p3), .val (.int (0 : Int32)), .val (.int (0 : Int32)), .val (.ref b1), .val (.ref b6), .val (.ref vs), .val (.ref b17), .val (.int (0 : Int32)), .unset] [(.ref ra)])) t → Steps p.tables e below (s₁.setTop (entryFrame m #[(.int p1), (.int p2), (.int p3)] maxLocals)) t := fun t k => ch29 t (by
      show Steps p.tables e below (T28.setTop (mkF m 107 #[.val (.int p1), .val (.int p2), .val (.int p3), .val (.int (0 : Int32)), .val (.int (0 : Int32)), .val (.ref b1), .val (.ref b6), .val (.ref vs), .val (.ref b17), .val (.int (0 : Int32)), .unset] [(.int (0 : Int32))])) t
      refine XS.iload X28.here hx rfl (hb hby at_107) rfl ?_
      show Steps p.tables e below (T28.setTop (mkF m 109 #[.val (.int p1), .val (.int p2), .val (.int p3), .val (.int (0 : Int32)), .val (.int (0 : Int32)), .val (.ref b1), .val (.ref b6), .val (.ref vs), .val (.ref b17), .val (.int (0 : Int32)), .unset] [(.int (0 : Int32)), (.int (0 : Int32))])) t
      refine XS.icmpYes X28.here hx rfl (pc0 := 109) (pc' := 114) rfl (hb hby at_109) rfl (teq (by decide : (0 : Int32) = (0 : Int32))).1 (by decide) (by decide) ?_
      show Steps p.tables e below (T28.setTop (mkF m 114 #[.val (.int p1), .val (.int p2), .val (.int p3), .val (.int (0 : Int32)), .val (.int (0 : Int32)), .val (.ref b1), .val (.ref b6), .val (.ref vs), .val (.ref b17), .val (.int (0 : Int32)), .unset] [])) t
      refine XS.aload X28.here hx rfl (hb hby at_114) rfl rfl ?_
      show Steps p.tables e below (T28.setTop (mkF m 116 #[.val (.int p1), .val (.int p2), .val (.int p3), .val (.int (0 : Int32)), .val (.int (0 : Int32)), .val (.ref b1), .val (.ref b6), .val (.ref vs), .val (.ref b17), .val (.int (0 : Int32)), .unset] [(.ref b17)])) t
      refine XS.iconst X28.here hx rfl (hb hby at_116) ?_
      show Steps p.tables e below (T28.setTop (mkF m 117 #[.val (.int p1), .val (.int p2), .val (.int p3), .val (.int (0 : Int32)), .val (.int (0 : Int32)), .val (.ref b1), .val (.ref b6), .val (.ref vs), .val (.ref b17), .val (.int (0 : Int32)), .unset] [(.int (0 : Int32)), (.ref b17)])) t
      exact st31.trans k)
  have cf34 := (cf25.keep Kq31)
  have cf35 := (cf26.keep Kq31)
  obtain ⟨cq36, kq36, qa36, qb36, qc36⟩ := isOf hZ eh31 fq31_0
  obtain ⟨vv37, _, ⟨T37, L37, kk37, nn37⟩, -, X37, hS2, hgr, ⟨Lc37, hQ37, l37, y37, z37⟩, st37⟩ := X31.virtualBackS hx (y := (⟨"com/example/nokkel/nokkel/core/ClientRecord", "withGraceMissed", "(Z)Lcom/example/nokkel/nokkel/core/ClientRecord;"⟩ : MethodName)) (z := (⟨"com/example/nokkel/nokkel/core/ClientRecord", "withGraceMissed", "(Z)Lcom/example/nokkel/nokkel/core/ClientRecord;"⟩ : MethodName)) hown (mvT hZ (hw _ (List.mem_of_getElem? (i := 80) rfl))) (mvT hZ (hw _ (List.mem_of_getElem? (i := 81) rfl))) (notFace_of_selects (args := #[]) (mvT hZ (hw _ (List.mem_of_getElem? (i := 83) rfl)))) (mvT hZ (hw _ (List.mem_of_getElem? (i := 83) rfl))) (mvT hZ (hw _ (List.mem_of_getElem? (i := 82) rfl))) (by decide) (backOfS (W := 0) (own_wgm_00 l Z a0 hw [] hh31 n0 (Nat.le_trans Z0 Kp31.1) ra b6 vs fq31_1 fq31_2 fq31_3 fq31_4 cf34 cf35) hZ (hw _ (List.mem_of_getElem? (i := 84) rfl)) (hw _ (List.mem_of_getElem? (i := 46) rfl)) (by decide) (by decide)) qa36 qc36 (g := (mkF m 121 #[.val (.int p1), .val (.int p2), .val (.int p3), .val (.int (0 : Int32)), .val (.int (0 : Int32)), .val (.ref b1), .val (.ref b6), .val (.ref vs), .val (.ref b17), .val (.int (0 : Int32)), .unset] [(.int (0 : Int32)), (.ref ra)])) rfl (by rw [hml]; rfl) (Steps.refl _) (argsL := [(.int (0 : Int32))]) (rest := []) (lenOf own_pd__Z_Lcom_example_nokkel_nokkel_core_ClientRecord_ rfl) rfl (by show 2 * 0 + _ ≤ _; exact Nat.le_of_eq rfl) (hb hby at_121) (fun _ _ => ⟨rfl, eh31, (by decide : 15 + 5 ≤ _), (by decide : 139 + 64 ≤ _)⟩)
  dsimp only [Pt.U, Pt.locs, Pt.cells, Pt.slots] at X37 l37 y37 z37 st37 hQ37 hS2 hgr
  subst l37 y37 z37
  obtain ⟨X37, hS, hZ, hown⟩ := rebS hS (by rw [eh31]; exact hk) X37 hS2 hgr hZ hown
  obtain ⟨hh37, eh37⟩ : ∃ h, T37.heap = h := ⟨_, rfl⟩
  rw [eh37] at hQ37
  rw [eh37] at hS
  have hk : hh37.size ≤ hh37.size := Nat.le_refl _
  obtain ⟨rz, rfl, zq37, Nq37, Kq37, fq37_0, fq37_1, fq37_2, fq37_3, fq37_4⟩ := hQ37
  have N37 := Fr.app N31 Nq37
  have cf38 := (cf32.keep Kq31 nin0)
  have ne_b1_rz : b1 ≠ rz := Nat.ne_of_lt (Nat.lt_of_lt_of_le cf38.lt zq37)
  have ne_b6_rz : b6 ≠ rz := Nat.ne_of_lt (Nat.lt_of_lt_of_le cf34.lt zq37)
  have ne_vs_rz : vs ≠ rz := Nat.ne_of_lt (Nat.lt_of_lt_of_le cf35.lt zq37)
  have cf39 := (fq23_0.keep Kq31)
  have ne_b17_rz : b17 ≠ rz := Nat.ne_of_lt (Nat.lt_of_lt_of_le cf39.lt zq37)
  have ne_ra_rz : ra ≠ rz := Nat.ne_of_lt (Nat.lt_of_lt_of_le fq31_0.lt zq37)
  have g_rz : n0 ≤ rz := Nat.le_trans (Nat.le_trans Z0 Kp31.1) zq37
  have sz_rz : h0.size ≤ rz := Nat.le_trans Kp31.1 zq37
  have Kp37 := Keep.trans Kp31 Kq37 all0
  have ch40 : ∀ t, Steps p.tables e below (T37.setTop (mkF m 124 #[.val (.int p1), .val (.int p2), .val (.int p3), .val (.int (0 : Int32)), .val (.int (0 : Int32)), .val (.ref b1), .val (.ref b6), .val (.ref vs), .val (.ref b17), .val (.int (0 : Int32)), .unset] [(.ref rz)])) t → Steps p.tables e below (s₁.setTop (entryFrame m #[(.int p1), (.int p2), (.int p3)] maxLocals)) t := fun t k => ch33 t (by
      show Steps p.tables e below (T31.setTop (mkF m 120 #[.val (.int p1), .val (.int p2), .val (.int p3), .val (.int (0 : Int32)), .val (.int (0 : Int32)), .val (.ref b1), .val (.ref b6), .val (.ref vs), .val (.ref b17), .val (.int (0 : Int32)), .unset] [(.ref ra)])) t
      refine XS.iconst X31.here hx rfl (hb hby at_120) ?_
      show Steps p.tables e below (T31.setTop (mkF m 121 #[.val (.int p1), .val (.int p2), .val (.int p3), .val (.int (0 : Int32)), .val (.int (0 : Int32)), .val (.ref b1), .val (.ref b6), .val (.ref vs), .val (.ref b17), .val (.int (0 : Int32)), .unset] [(.int (0 : Int32)), (.ref ra)])) t
      exact st37.trans k)
  have cf41 := (cf34.keep Kq37)
  have cf42 := (cf35.keep Kq37)
  obtain ⟨cq43, kq43, qa43, qb43, qc43⟩ := isOf hZ eh37 fq37_0
  obtain ⟨vv44, _, ⟨T44, L44, kk44, nn44⟩, -, X44, ⟨Lc44, hQ44, l44, y44, z44⟩, st44⟩ := X37.virtualBack hx (y := (⟨"com/example/nokkel/nokkel/core/ClientRecord", "isMarked", "()Z"⟩ : MethodName)) (z := (⟨"com/example/nokkel/nokkel/core/ClientRecord", "isMarked", "()Z"⟩ : MethodName)) hown (mvT hZ (hw _ (List.mem_of_getElem? (i := 68) rfl))) (mvT hZ (hw _ (List.mem_of_getElem? (i := 69) rfl))) (notFace_of_selects (args := #[]) (mvT hZ (hw _ (List.mem_of_getElem? (i := 71) rfl)))) (mvT hZ (hw _ (List.mem_of_getElem? (i := 71) rfl))) (mvT hZ (hw _ (List.mem_of_getElem? (i := 70) rfl))) (by decide) (backOf (W := 0) (own_mark_00 l Z a0 hw [] hh37 n0 (Nat.le_trans Z0 Kp37.1) rz b6 vs fq37_1 fq37_2 fq37_3 fq37_4 cf41 cf42) hZ (hw _ (List.mem_of_getElem? (i := 72) rfl)) (hw _ (List.mem_of_getElem? (i := 46) rfl)) (by decide) (by decide)) qa43 qc43 (g := (mkF m 128 #[.val (.int p1), .val (.int p2), .val (.int p3), .val (.int (0 : Int32)), .val (.int (0 : Int32)), .val (.ref b1), .val (.ref b6), .val (.ref vs), .val (.ref b17), .val (.int (0 : Int32)), .val (.ref rz)] [(.ref rz)])) rfl (by rw [hml]; rfl) (Steps.refl _) (argsL := []) (rest := []) (lenOf own_pd___Z rfl) rfl (by show 2 * 0 + _ ≤ _; exact Nat.le_of_eq rfl) (hb hby at_128) (fun _ _ => ⟨rfl, eh37, (by decide : 20 + 0 ≤ _), (by decide : 203 + 0 ≤ _)⟩)
  dsimp only [Pt.U, Pt.locs, Pt.cells, Pt.slots] at X44 l44 y44 z44 st44 hQ44
  subst l44 y44 z44
  obtain ⟨rfl, Nq44, e44⟩ := hQ44
  have N44 := Fr.app N37 Nq44
  have ch45 : ∀ t, Steps p.tables e below (T44.setTop (mkF m 131 #[.val (.int p1), .val (.int p2), .val (.int p3), .val (.int (0 : Int32)), .val (.int (0 : Int32)), .val (.ref b1), .val (.ref b6), .val (.ref vs), .val (.ref b17), .val (.int (0 : Int32)), .val (.ref rz)] [(.int (0 : Int32))])) t → Steps p.tables e below (s₁.setTop (entryFrame m #[(.int p1), (.int p2), (.int p3)] maxLocals)) t := fun t k => ch40 t (by
      show Steps p.tables e below (T37.setTop (mkF m 124 #[.val (.int p1), .val (.int p2), .val (.int p3), .val (.int (0 : Int32)), .val (.int (0 : Int32)), .val (.ref b1), .val (.ref b6), .val (.ref vs), .val (.ref b17), .val (.int (0 : Int32)), .unset] [(.ref rz)])) t
      refine XS.astore X37.here hx rfl (hb hby at_124) rfl rfl (l' := #[.val (.int p1), .val (.int p2), .val (.int p3), .val (.int (0 : Int32)), .val (.int (0 : Int32)), .val (.ref b1), .val (.ref b6), .val (.ref vs), .val (.ref b17), .val (.int (0 : Int32)), .val (.ref rz)]) rfl ?_
      show Steps p.tables e below (T37.setTop (mkF m 126 #[.val (.int p1), .val (.int p2), .val (.int p3), .val (.int (0 : Int32)), .val (.int (0 : Int32)), .val (.ref b1), .val (.ref b6), .val (.ref vs), .val (.ref b17), .val (.int (0 : Int32)), .val (.ref rz)] [])) t
      refine XS.aload X37.here hx rfl (hb hby at_126) rfl rfl ?_
      show Steps p.tables e below (T37.setTop (mkF m 128 #[.val (.int p1), .val (.int p2), .val (.int p3), .val (.int (0 : Int32)), .val (.int (0 : Int32)), .val (.ref b1), .val (.ref b6), .val (.ref vs), .val (.ref b17), .val (.int (0 : Int32)), .val (.ref rz)] [(.ref rz)])) t
      exact st44.trans k)
  have ch46 : ∀ t, Steps p.tables e below (T44.setTop (mkF m 137 #[.val (.int p1), .val (.int p2), .val (.int p3), .val (.int (0 : Int32)), .val (.int (0 : Int32)), .val (.ref b1), .val (.ref b6), .val (.ref vs), .val (.ref b17), .val (.int (0 : Int32)), .val (.ref rz)] [(.int (1 : Int32))])) t → Steps p.tables e below (s₁.setTop (entryFrame m #[(.int p1), (.int p2), (.int p3)] maxLocals)) t := fun t k => ch45 t (by
      show Steps p.tables e below (T44.setTop (mkF m 131 #[.val (.int p1), .val (.int p2), .val (.int p3), .val (.int (0 : Int32)), .val (.int (0 : Int32)), .val (.ref b1), .val (.ref b6), .val (.ref vs), .val (.ref b17), .val (.int (0 : Int32)), .val (.ref rz)] [(.int (0 : Int32))])) t
      refine XS.ifYes X44.here hx rfl (pc0 := 131) (pc' := 136) rfl (hb hby at_131) rfl ((if0 _ _).trans (teq (by decide : (0 : Int32) = (0 : Int32))).1) (by decide) (by decide) ?_
      show Steps p.tables e below (T44.setTop (mkF m 136 #[.val (.int p1), .val (.int p2), .val (.int p3), .val (.int (0 : Int32)), .val (.int (0 : Int32)), .val (.ref b1), .val (.ref b6), .val (.ref vs), .val (.ref b17), .val (.int (0 : Int32)), .val (.ref rz)] [])) t
      refine XS.iconst X44.here hx rfl (hb hby at_136) ?_
      exact k)
  obtain ⟨fs, hr, hrun, hended, hend⟩ := X44.leaveW hS (by rw [e44]; exact hk) (v := some (.int (1 : Int32))) (fun h => by rw [Bd.returns] at h; cases h)
  refine ⟨_, _, ch46 _ ?_, hrun, hended, _, _, rfl, ?_, hend.1, hend.2.1, hend.2.2.1, hend.2.2.2.mono (by decide) (by decide)⟩
  · show Steps p.tables e below (T44.setTop (mkF m 137 #[.val (.int p1), .val (.int p2), .val (.int p3), .val (.int (0 : Int32)), .val (.int (0 : Int32)), .val (.ref b1), .val (.ref b6), .val (.ref vs), .val (.ref b17), .val (.int (0 : Int32)), .val (.ref rz)] [(.int (1 : Int32))])) _
    exact retN X44 hx (t := .boolean) Bd.returns (by simp) (hb hby at_137) hr
  · show QN (some (.int (1 : Int32))) n0 _ T44.heap _
    rw [e44]
    exact ⟨rfl, N44⟩
theorem own_ef_own_law_01 (m : MethodId) {x0 : Int32} {x1 : Int32} {x2 : Int32} : entryFrame m #[(.int x0), (.int x1), (.int x2)] maxLocals = mkF m 0 #[.val (.int x0), .val (.int x1), .val (.int x2), .unset, .unset, .unset, .unset, .unset, .unset, .unset, .unset] [] := by first | (simp [entryFrame, mkF, argsToLocals, Value.category, maxLocals]; done) | rfl
set_option maxRecDepth 65536 in
set_option maxHeartbeats 40000000 in
theorem own_law_01 (l : Launch) (Z : State) (a0 : Array Value) (hw : ∀ d ∈ tables_1, d.before a0 Z = true) (ws : List Jvm.Cond) (h0 : Heap) (n0 : Nat) (Z0 : n0 ≤ h0.size) (p1 p2 p3 : Int32) (s0 : (p1 &&& (1 : Int32)) = (0 : Int32)) (s1 : ¬ (p1 &&& (2 : Int32)) = (0 : Int32)) (zC : Int32) (S_CS : Sta Z h0 "java/lang/String" "COMPACT_STRINGS" "Z" (.int zC)) (P5 : ¬ (zC = (0 : Int32))) :
    MetFree l x (head1 (Jvm.Cond.code x code maxLocals ret :: ws) room_1) (fun a U => a = #[(.int p1), (.int p2), (.int p3)] ∧ Z.Warmed39 U.vm ∧ U.heap = h0) (fun _ _ _ _ _ => True) (fun _ U o U' => ∃ v L, o = .returned v ∧ QN (some (.int (1 : Int32))) n0 v U'.heap L ∧ ReturnedEndW U o U' L room_1.cells room_1.slots) := by
  refine MetFree.of_bodySF (plainFor_of_name own_pn_com_example_nokkel_nokkel_core_ClientRecordIsMarkedPinLaw) hisR ?_
  intro p e s m args below meth c s₁ Bd hml0 hP hK
  obtain ⟨rfl, hZ, hh⟩ := hP
  have hx := Bd.exec
  have hby := Bd.bytes
  have hml : c.maxLocals = 11 := hml0
  have hown : s.vm.findClass "com/example/nokkel/nokkel/core/ClientRecordIsMarkedPinLaw" = some m.cls := findClass_of_methodNamed Bd.named
  have hnm := (name_of_methodNamed Bd.named Bd.method).1
  have X0 : Stand p l e room_1 (s.setVm s.vm) m #[(.int p1), (.int p2), (.int p3)] below meth c s₁ [] 0 0 := Stand.of_body Bd
  have hZ : Z.Warmed39 (s.setVm s.vm).vm := hZ
  have hown : (s.setVm s.vm).vm.findClass "com/example/nokkel/nokkel/core/ClientRecordIsMarkedPinLaw" = some m.cls := hown
  have hS : s.Since s.vm 0 := (State.WarmedH.refl s).since 0
  have hk : 0 ≤ h0.size := Nat.zero_le _
  have e0 : s₁.heap = h0 := by rw [← hh, Bd.state]; rfl
  have N0 := Fr.nil n0
  have pre0 : ∀ t, Steps p.tables e below (s₁.setTop (mkF m 0 #[.val (.int p1), .val (.int p2), .val (.int p3), .unset, .unset, .unset, .unset, .unset, .unset, .unset, .unset] [])) t → Steps p.tables e below (s₁.setTop (entryFrame m #[(.int p1), (.int p2), (.int p3)] maxLocals)) t := fun t k => castTop (own_ef_own_law_01 m) k
  obtain ⟨T1, hp1, k1, X1, e1, E1, A1, st1⟩ := newP X0 hx hZ (hw _ (List.mem_of_getElem? (i := 0) rfl)) e0 (g := (mkF m 26 #[.val (.int p1), .val (.int p2), .val (.int p3), .val (.int (0 : Int32)), .val (.int (1 : Int32)), .unset, .unset, .unset, .unset, .unset, .unset] [(.int (1 : Int32))])) rfl (hb hby at_26) rfl (by decide) (cap := 1) (by decide) (by decide) (by decide) (by decide)
  obtain ⟨b1, g1⟩ : ∃ z, z = h0.size := ⟨_, rfl⟩
  rw [← g1] at A1 st1
  have g_b1 : n0 ≤ b1 := Nat.le_trans (Nat.le_trans Z0 (Keep.refl h0 []).1) (Nat.le_of_eq g1.symm)
  have sz_b1 : h0.size ≤ b1 := Nat.le_trans (Keep.refl h0 []).1 (Nat.le_of_eq g1.symm)
  have hk := Nat.le_trans hk E1.1
  have Kp1 := Keep.ext (Keep.refl h0 []) E1
  have V1 : Arv Z hp1 b1 k1 .char (1 : Int32) [(.int (0 : Int32))] (.int (0 : Int32)) := (Arv.new A1 (by decide)).pad (pad_rep [] (.int (0 : Int32)) 1)
  have ch2 : ∀ t, Steps p.tables e below (T1.setTop (mkF m 28 #[.val (.int p1), .val (.int p2), .val (.int p3), .val (.int (0 : Int32)), .val (.int (1 : Int32)), .unset, .unset, .unset, .unset, .unset, .unset] [(.ref b1)])) t → Steps p.tables e below (s₁.setTop (entryFrame m #[(.int p1), (.int p2), (.int p3)] maxLocals)) t := fun t k => pre0 t (by
      show Steps p.tables e below (s₁.setTop (mkF m 0 #[.val (.int p1), .val (.int p2), .val (.int p3), .unset, .unset, .unset, .unset, .unset, .unset, .unset, .unset] [])) t
      refine XS.iloadN X0.here hx rfl (hb hby at_0) rfl ?_
      show Steps p.tables e below (s₁.setTop (mkF m 1 #[.val (.int p1), .val (.int p2), .val (.int p3), .unset, .unset, .unset, .unset, .unset, .unset, .unset, .unset] [(.int p1)])) t
      refine XS.iconst X0.here hx rfl (hb hby at_1) ?_
      show Steps p.tables e below (s₁.setTop (mkF m 2 #[.val (.int p1), .val (.int p2), .val (.int p3), .unset, .unset, .unset, .unset, .unset, .unset, .unset, .unset] [(.int (1 : Int32)), (.int p1)])) t
      refine XS.iand X0.here hx rfl (hb hby at_2) rfl ?_
      show Steps p.tables e below (s₁.setTop (mkF m 3 #[.val (.int p1), .val (.int p2), .val (.int p3), .unset, .unset, .unset, .unset, .unset, .unset, .unset, .unset] [(.int (p1 &&& (1 : Int32)))])) t
      refine XS.ifYes X0.here hx rfl (pc0 := 3) (pc' := 10) rfl (hb hby at_3) rfl ((if0 _ _).trans (teq s0).1) (by decide) (by decide) ?_
      show Steps p.tables e below (s₁.setTop (mkF m 10 #[.val (.int p1), .val (.int p2), .val (.int p3), .unset, .unset, .unset, .unset, .unset, .unset, .unset, .unset] [])) t
      refine XS.iconst X0.here hx rfl (hb hby at_10) ?_
      show Steps p.tables e below (s₁.setTop (mkF m 11 #[.val (.int p1), .val (.int p2), .val (.int p3), .unset, .unset, .unset, .unset, .unset, .unset, .unset, .unset] [(.int (0 : Int32))])) t
      refine XS.istoreN X0.here hx rfl (hb hby at_11) rfl (l' := #[.val (.int p1), .val (.int p2), .val (.int p3), .val (.int (0 : Int32)), .unset, .unset, .unset, .unset, .unset, .unset, .unset]) rfl ?_
      show Steps p.tables e below (s₁.setTop (mkF m 12 #[.val (.int p1), .val (.int p2), .val (.int p3), .val (.int (0 : Int32)), .unset, .unset, .unset, .unset, .unset, .unset, .unset] [])) t
      refine XS.iloadN X0.here hx rfl (hb hby at_12) rfl ?_
      show Steps p.tables e below (s₁.setTop (mkF m 13 #[.val (.int p1), .val (.int p2), .val (.int p3), .val (.int (0 : Int32)), .unset, .unset, .unset, .unset, .unset, .unset, .unset] [(.int p1)])) t
      refine XS.iconst X0.here hx rfl (hb hby at_13) ?_
      show Steps p.tables e below (s₁.setTop (mkF m 14 #[.val (.int p1), .val (.int p2), .val (.int p3), .val (.int (0 : Int32)), .unset, .unset, .unset, .unset, .unset, .unset, .unset] [(.int (2 : Int32)), (.int p1)])) t
      refine XS.iand X0.here hx rfl (hb hby at_14) rfl ?_
      show Steps p.tables e below (s₁.setTop (mkF m 15 #[.val (.int p1), .val (.int p2), .val (.int p3), .val (.int (0 : Int32)), .unset, .unset, .unset, .unset, .unset, .unset, .unset] [(.int (p1 &&& (2 : Int32)))])) t
      refine XS.ifNo X0.here hx rfl (hb hby at_15) rfl ((if0 _ _).trans (feq s1).1) ?_
      show Steps p.tables e below (s₁.setTop (mkF m 18 #[.val (.int p1), .val (.int p2), .val (.int p3), .val (.int (0 : Int32)), .unset, .unset, .unset, .unset, .unset, .unset, .unset] [])) t
      refine XS.iconst X0.here hx rfl (hb hby at_18) ?_
      show Steps p.tables e below (s₁.setTop (mkF m 19 #[.val (.int p1), .val (.int p2), .val (.int p3), .val (.int (0 : Int32)), .unset, .unset, .unset, .unset, .unset, .unset, .unset] [(.int (1 : Int32))])) t
      refine XS.goto X0.here hx rfl (pc0 := 19) (pc' := 23) rfl (hb hby at_19) (by decide) (by decide) ?_
      show Steps p.tables e below (s₁.setTop (mkF m 23 #[.val (.int p1), .val (.int p2), .val (.int p3), .val (.int (0 : Int32)), .unset, .unset, .unset, .unset, .unset, .unset, .unset] [(.int (1 : Int32))])) t
      refine XS.istore X0.here hx rfl (hb hby at_23) rfl (l' := #[.val (.int p1), .val (.int p2), .val (.int p3), .val (.int (0 : Int32)), .val (.int (1 : Int32)), .unset, .unset, .unset, .unset, .unset, .unset]) rfl ?_
      show Steps p.tables e below (s₁.setTop (mkF m 25 #[.val (.int p1), .val (.int p2), .val (.int p3), .val (.int (0 : Int32)), .val (.int (1 : Int32)), .unset, .unset, .unset, .unset, .unset, .unset] [])) t
      refine XS.iconst X0.here hx rfl (hb hby at_25) ?_
      show Steps p.tables e below (s₁.setTop (mkF m 26 #[.val (.int p1), .val (.int p2), .val (.int p3), .val (.int (0 : Int32)), .val (.int (1 : Int32)), .unset, .unset, .unset, .unset, .unset, .unset] [(.int (1 : Int32))])) t
      exact st1 t k)
  obtain ⟨cl3, Ar3, qq3, Sz3, Ng3, Ha3, Ga3⟩ := id V1
  have hin3 : ¬ ((0 : Int32) < 0 ∨ cl3.slots.size ≤ ((0 : Int32)).toNatClampNeg) := inb_of Sz3 (by decide)
  obtain ⟨T4, hp4, X4, e4, W4, st4⟩ := stC X1 hx hZ e1 Ar3 (j := (0 : Int32)) hin3 (g := (mkF m 39 #[.val (.int p1), .val (.int p2), .val (.int p3), .val (.int (0 : Int32)), .val (.int (1 : Int32)), .val (.ref b1), .unset, .unset, .unset, .unset, .unset] [(.int ((p2 &&& (255 : Int32)).toUInt32.toUInt16.toUInt32.toInt32)), (.int (0 : Int32)), (.ref b1)])) rfl rfl (hb hby at_39)
  have ch5 : ∀ t, Steps p.tables e below (T4.setTop (mkF m 40 #[.val (.int p1), .val (.int p2), .val (.int p3), .val (.int (0 : Int32)), .val (.int (1 : Int32)), .val (.ref b1), .unset, .unset, .unset, .unset, .unset] [])) t → Steps p.tables e below (s₁.setTop (entryFrame m #[(.int p1), (.int p2), (.int p3)] maxLocals)) t := fun t k => ch2 t (by
      show Steps p.tables e below (T1.setTop (mkF m 28 #[.val (.int p1), .val (.int p2), .val (.int p3), .val (.int (0 : Int32)), .val (.int (1 : Int32)), .unset, .unset, .unset, .unset, .unset, .unset] [(.ref b1)])) t
      refine XS.astore X1.here hx rfl (hb hby at_28) rfl rfl (l' := #[.val (.int p1), .val (.int p2), .val (.int p3), .val (.int (0 : Int32)), .val (.int (1 : Int32)), .val (.ref b1), .unset, .unset, .unset, .unset, .unset]) rfl ?_
      show Steps p.tables e below (T1.setTop (mkF m 30 #[.val (.int p1), .val (.int p2), .val (.int p3), .val (.int (0 : Int32)), .val (.int (1 : Int32)), .val (.ref b1), .unset, .unset, .unset, .unset, .unset] [])) t
      refine XS.aload X1.here hx rfl (hb hby at_30) rfl rfl ?_
      show Steps p.tables e below (T1.setTop (mkF m 32 #[.val (.int p1), .val (.int p2), .val (.int p3), .val (.int (0 : Int32)), .val (.int (1 : Int32)), .val (.ref b1), .unset, .unset, .unset, .unset, .unset] [(.ref b1)])) t
      refine XS.iconst X1.here hx rfl (hb hby at_32) ?_
      show Steps p.tables e below (T1.setTop (mkF m 33 #[.val (.int p1), .val (.int p2), .val (.int p3), .val (.int (0 : Int32)), .val (.int (1 : Int32)), .val (.ref b1), .unset, .unset, .unset, .unset, .unset] [(.int (0 : Int32)), (.ref b1)])) t
      refine XS.iloadN X1.here hx rfl (hb hby at_33) rfl ?_
      show Steps p.tables e below (T1.setTop (mkF m 34 #[.val (.int p1), .val (.int p2), .val (.int p3), .val (.int (0 : Int32)), .val (.int (1 : Int32)), .val (.ref b1), .unset, .unset, .unset, .unset, .unset] [(.int p2), (.int (0 : Int32)), (.ref b1)])) t
      refine XS.sipush X1.here hx rfl (hb hby at_34) ?_
      show Steps p.tables e below (T1.setTop (mkF m 37 #[.val (.int p1), .val (.int p2), .val (.int p3), .val (.int (0 : Int32)), .val (.int (1 : Int32)), .val (.ref b1), .unset, .unset, .unset, .unset, .unset] [(.int (255 : Int32)), (.int p2), (.int (0 : Int32)), (.ref b1)])) t
      refine XS.iand X1.here hx rfl (hb hby at_37) rfl ?_
      show Steps p.tables e below (T1.setTop (mkF m 38 #[.val (.int p1), .val (.int p2), .val (.int p3), .val (.int (0 : Int32)), .val (.int (1 : Int32)), .val (.ref b1), .unset, .unset, .unset, .unset, .unset] [(.int (p2 &&& (255 : Int32))), (.int (0 : Int32)), (.ref b1)])) t
      refine XS.i2c X1.here hx rfl (hb hby at_38) rfl ?_
      show Steps p.tables e below (T1.setTop (mkF m 39 #[.val (.int p1), .val (.int p2), .val (.int p3), .val (.int (0 : Int32)), .val (.int (1 : Int32)), .val (.ref b1), .unset, .unset, .unset, .unset, .unset] [(.int ((p2 &&& (255 : Int32)).toUInt32.toUInt16.toUInt32.toInt32)), (.int (0 : Int32)), (.ref b1)])) t
      exact st4 t k)
  have V4 : Arv Z hp4 b1 k1 .char (1 : Int32) [(.int (nar .char ((p2 &&& (255 : Int32)).toUInt32.toUInt16.toUInt32.toInt32)))] (.int (0 : Int32)) := Arv.set Ar3 qq3 Sz3 Ng3 Ha3 Ga3 (fits_nar_char _) W4 0 rfl (Nat.le_of_ble_eq_true rfl)
  have hk := Nat.le_trans hk (Keep.of_wr W4).1
  have N4 := Fr.snoc X4 N0 g_b1
  have Kp4 := Keep.wr Kp1 W4 (Or.inr sz_b1)
  obtain ⟨T6, hp6, X6, e6, E6, A6, D6, -, st6⟩ := newO X4 hx hZ hown (hw _ (List.mem_of_getElem? (i := 1) rfl)) (hw _ (List.mem_of_getElem? (i := 2) rfl)) (hw _ (List.mem_of_getElem? (i := 3) rfl)) e4 (g := (mkF m 40 #[.val (.int p1), .val (.int p2), .val (.int p3), .val (.int (0 : Int32)), .val (.int (1 : Int32)), .val (.ref b1), .unset, .unset, .unset, .unset, .unset] [])) rfl (hb hby at_40) (by decide) (by decide)
  obtain ⟨b6, g6⟩ : ∃ z, z = hp4.size := ⟨_, rfl⟩
  rw [← g6] at A6 D6 st6
  have ne_b1_b6 : b1 ≠ b6 := Nat.ne_of_lt (Nat.lt_of_lt_of_le V4.lt (Nat.le_of_eq g6.symm))
  have g_b6 : n0 ≤ b6 := Nat.le_trans (Nat.le_trans Z0 Kp4.1) (Nat.le_of_eq g6.symm)
  have sz_b6 : h0.size ≤ b6 := Nat.le_trans Kp4.1 (Nat.le_of_eq g6.symm)
  have hk := Nat.le_trans hk E6.1
  have Kp6 := Keep.ext Kp4 E6
  have F6_27 : Fld Z hp6 b6 "java/lang/String" "coder" "B" (.int (0 : Int32)) := D6 (Or.inr (hw _ (List.mem_of_getElem? (i := 27) rfl))) (ty := .byte) (by decide)
  have F6_29 : Fld Z hp6 b6 "java/lang/String" "value" "[B" .null := D6 (Or.inr (hw _ (List.mem_of_getElem? (i := 29) rfl))) (ty := (.array .byte)) (by decide)
  have ch7 : ∀ t, Steps p.tables e below (T6.setTop (mkF m 43 #[.val (.int p1), .val (.int p2), .val (.int p3), .val (.int (0 : Int32)), .val (.int (1 : Int32)), .val (.ref b1), .unset, .unset, .unset, .unset, .unset] [(.ref b6)])) t → Steps p.tables e below (s₁.setTop (entryFrame m #[(.int p1), (.int p2), (.int p3)] maxLocals)) t := fun t k => ch5 t (by
      show Steps p.tables e below (T4.setTop (mkF m 40 #[.val (.int p1), .val (.int p2), .val (.int p3), .val (.int (0 : Int32)), .val (.int (1 : Int32)), .val (.ref b1), .unset, .unset, .unset, .unset, .unset] [])) t
      exact st6 t k)
  have hp8 : ∀ c ∈ ([(nar .char ((p2 &&& (255 : Int32)).toUInt32.toUInt16.toUInt32.toInt32))] : List Int32), ¬ c < 0 ∧ ¬ (255 : Int32) < c := by
    intro c hc
    simp only [List.mem_cons, List.not_mem_nil, or_false] at hc
    rcases hc with rfl
    · exact own_chr p2
  have cf9 := (V4.ext E6)
  have cf10 := (own_sta_keep S_CS Kp6 all0)
  obtain ⟨vv11, _, ⟨T11, L11, kk11, nn11⟩, -, X11, ⟨Lc11, hQ11, l11, y11, z11⟩, st11⟩ := X6.specialBack hx (y := (⟨"java/lang/String", "<init>", "([C)V"⟩ : MethodName)) rfl hown (mvT hZ (hw _ (List.mem_of_getElem? (i := 4) rfl))) (mvT hZ (hw _ (List.mem_of_getElem? (i := 5) rfl))) (mvT hZ (hw _ (List.mem_of_getElem? (i := 6) rfl))) (by decide) (StrChars.Road.backV (W := 1) hZ (own_words hw) (kI := 4) (hw _ (List.mem_of_getElem? (i := 2) rfl)) (cs := ([(nar .char ((p2 &&& (255 : Int32)).toUInt32.toUInt16.toUInt32.toInt32))] : List Int32)) (bs := (([(nar .char ((p2 &&& (255 : Int32)).toUInt32.toUInt16.toUInt32.toInt32))] : List Int32)).map (fun c => c.toInt8.toInt32)) (n := 1) g_b6 (Nat.le_trans Z0 Kp6.1) A6 F6_29 F6_27 cf9 cf10 P5 rfl rfl (by decide) (by decide) hp8 rfl (by decide) (by decide)) (g := (mkF m 46 #[.val (.int p1), .val (.int p2), .val (.int p3), .val (.int (0 : Int32)), .val (.int (1 : Int32)), .val (.ref b1), .unset, .unset, .unset, .unset, .unset] [(.ref b1), (.ref b6), (.ref b6)])) rfl (by rw [hml]; rfl) (Steps.refl _) (a := b6) (argsL := [(.ref b1)]) (rest := [(.ref b6)]) (lenOf own_pd___C_V rfl) rfl (by show 2 * 0 + _ ≤ _; exact Nat.le_of_eq rfl) (hb hby at_46) (fun _ _ => ⟨rfl, e6, (by decide : 2 + 1 ≤ _), (by decide : 5 + 1 ≤ _)⟩)
  dsimp only [Pt.U, Pt.locs, Pt.cells, Pt.slots] at X11 l11 y11 z11 st11 hQ11
  subst l11 y11 z11
  obtain ⟨hh11, eh11⟩ : ∃ h, T11.heap = h := ⟨_, rfl⟩
  rw [eh11] at hQ11
  obtain ⟨rfl, Nq11, Kq11, fq11_0, fq11_1⟩ := hQ11
  have N11 := Fr.app N4 Nq11
  have hk := Nat.le_trans hk Kq11.1
  have Kp11 := Keep.trans Kp6 Kq11 (allS (Or.inr sz_b6) all0)
  have ch12 : ∀ t, Steps p.tables e below (T11.setTop (mkF m 49 #[.val (.int p1), .val (.int p2), .val (.int p3), .val (.int (0 : Int32)), .val (.int (1 : Int32)), .val (.ref b1), .unset, .unset, .unset, .unset, .unset] [(.ref b6)])) t → Steps p.tables e below (s₁.setTop (entryFrame m #[(.int p1), (.int p2), (.int p3)] maxLocals)) t := fun t k => ch7 t (by
      show Steps p.tables e below (T6.setTop (mkF m 43 #[.val (.int p1), .val (.int p2), .val (.int p3), .val (.int (0 : Int32)), .val (.int (1 : Int32)), .val (.ref b1), .unset, .unset, .unset, .unset, .unset] [(.ref b6)])) t
      refine XS.dup X6.here hx rfl (hb hby at_43) rfl rfl ?_
      show Steps p.tables e below (T6.setTop (mkF m 44 #[.val (.int p1), .val (.int p2), .val (.int p3), .val (.int (0 : Int32)), .val (.int (1 : Int32)), .val (.ref b1), .unset, .unset, .unset, .unset, .unset] [(.ref b6), (.ref b6)])) t
      refine XS.aload X6.here hx rfl (hb hby at_44) rfl rfl ?_
      show Steps p.tables e below (T6.setTop (mkF m 46 #[.val (.int p1), .val (.int p2), .val (.int p3), .val (.int (0 : Int32)), .val (.int (1 : Int32)), .val (.ref b1), .unset, .unset, .unset, .unset, .unset] [(.ref b1), (.ref b6), (.ref b6)])) t
      exact st11.trans k)
  have cf13 := (own_sta_keep cf10 Kq11 (allS (fun c hc => own_exa_plain A6 c hc) all0))
  obtain ⟨vv14, _, ⟨T14, L14, kk14, nn14⟩, -, X14, ⟨Lc14, hQ14, l14, y14, z14⟩, st14⟩ := Jvm.LawKit.callS X11 hx (y := (⟨"java/lang/String", "valueOf", "(C)Ljava/lang/String;"⟩ : MethodName)) hown (mvT hZ (hw _ (List.mem_of_getElem? (i := 30) rfl))) (mvT hZ (hw _ (List.mem_of_getElem? (i := 31) rfl))) (mvT hZ (hw _ (List.mem_of_getElem? (i := 3) rfl))) (mvT hZ (hw _ (List.mem_of_getElem? (i := 32) rfl))) (by decide) (backOf (W := 0) (own_vof l Z a0 hw [] hh11 n0 (Nat.le_trans Z0 Kp11.1) ((p3 &&& (255 : Int32)).toUInt32.toUInt16.toUInt32.toInt32) (own_chr2 p3) zC cf13 P5) hZ (hw _ (List.mem_of_getElem? (i := 32) rfl)) (hw _ (List.mem_of_getElem? (i := 3) rfl)) (by decide) (by decide)) (g := (mkF m 57 #[.val (.int p1), .val (.int p2), .val (.int p3), .val (.int (0 : Int32)), .val (.int (1 : Int32)), .val (.ref b1), .val (.ref b6), .unset, .unset, .unset, .unset] [(.int ((p3 &&& (255 : Int32)).toUInt32.toUInt16.toUInt32.toInt32))])) rfl (by rw [hml]; rfl) (argsL := [(.int ((p3 &&& (255 : Int32)).toUInt32.toUInt16.toUInt32.toInt32))]) (rest := []) (lenOf own_pd__C_Ljava_lang_String_ rfl) rfl (by show 2 * 0 + _ ≤ _; exact Nat.le_of_eq rfl) (hb hby at_57) (fun _ _ => ⟨rfl, eh11, (by decide : 3 + 2 ≤ _), (by decide : 6 + 5 ≤ _)⟩)
  dsimp only [Pt.U, Pt.locs, Pt.cells, Pt.slots] at X14 l14 y14 z14 st14 hQ14
  subst l14 y14 z14
  obtain ⟨hh14, eh14⟩ : ∃ h, T14.heap = h := ⟨_, rfl⟩
  rw [eh14] at hQ14
  obtain ⟨vs, rfl, zq14, Nq14, Kq14, fq14_0⟩ := hQ14
  have N14 := Fr.app N11 Nq14
  have hk := Nat.le_trans hk Kq14.1
  have cf15 := (cf9.keep Kq11 (ninS ne_b1_b6 nin0))
  have ne_b1_vs : b1 ≠ vs := Nat.ne_of_lt (Nat.lt_of_lt_of_le cf15.lt zq14)
  have ne_b6_vs : b6 ≠ vs := Nat.ne_of_lt (Nat.lt_of_lt_of_le fq11_0.lt zq14)
  have g_vs : n0 ≤ vs := Nat.le_trans (Nat.le_trans Z0 Kp11.1) zq14
  have sz_vs : h0.size ≤ vs := Nat.le_trans Kp11.1 zq14
  have Kp14 := Keep.trans Kp11 Kq14 all0
  have ch16 : ∀ t, Steps p.tables e below (T14.setTop (mkF m 60 #[.val (.int p1), .val (.int p2), .val (.int p3), .val (.int (0 : Int32)), .val (.int (1 : Int32)), .val (.ref b1), .val (.ref b6), .unset, .unset, .unset, .unset] [(.ref vs)])) t → Steps p.tables e below (s₁.setTop (entryFrame m #[(.int p1), (.int p2), (.int p3)] maxLocals)) t := fun t k => ch12 t (by
      show Steps p.tables e below (T11.setTop (mkF m 49 #[.val (.int p1), .val (.int p2), .val (.int p3), .val (.int (0 : Int32)), .val (.int (1 : Int32)), .val (.ref b1), .unset, .unset, .unset, .unset, .unset] [(.ref b6)])) t
      refine XS.astore X11.here hx rfl (hb hby at_49) rfl rfl (l' := #[.val (.int p1), .val (.int p2), .val (.int p3), .val (.int (0 : Int32)), .val (.int (1 : Int32)), .val (.ref b1), .val (.ref b6), .unset, .unset, .unset, .unset]) rfl ?_
      show Steps p.tables e below (T11.setTop (mkF m 51 #[.val (.int p1), .val (.int p2), .val (.int p3), .val (.int (0 : Int32)), .val (.int (1 : Int32)), .val (.ref b1), .val (.ref b6), .unset, .unset, .unset, .unset] [])) t
      refine XS.iloadN X11.here hx rfl (hb hby at_51) rfl ?_
      show Steps p.tables e below (T11.setTop (mkF m 52 #[.val (.int p1), .val (.int p2), .val (.int p3), .val (.int (0 : Int32)), .val (.int (1 : Int32)), .val (.ref b1), .val (.ref b6), .unset, .unset, .unset, .unset] [(.int p3)])) t
      refine XS.sipush X11.here hx rfl (hb hby at_52) ?_
      show Steps p.tables e below (T11.setTop (mkF m 55 #[.val (.int p1), .val (.int p2), .val (.int p3), .val (.int (0 : Int32)), .val (.int (1 : Int32)), .val (.ref b1), .val (.ref b6), .unset, .unset, .unset, .unset] [(.int (255 : Int32)), (.int p3)])) t
      refine XS.iand X11.here hx rfl (hb hby at_55) rfl ?_
      show Steps p.tables e below (T11.setTop (mkF m 56 #[.val (.int p1), .val (.int p2), .val (.int p3), .val (.int (0 : Int32)), .val (.int (1 : Int32)), .val (.ref b1), .val (.ref b6), .unset, .unset, .unset, .unset] [(.int (p3 &&& (255 : Int32)))])) t
      refine XS.i2c X11.here hx rfl (hb hby at_56) rfl ?_
      show Steps p.tables e below (T11.setTop (mkF m 57 #[.val (.int p1), .val (.int p2), .val (.int p3), .val (.int (0 : Int32)), .val (.int (1 : Int32)), .val (.ref b1), .val (.ref b6), .unset, .unset, .unset, .unset] [(.int ((p3 &&& (255 : Int32)).toUInt32.toUInt16.toUInt32.toInt32))])) t
      exact st14 t k)
  obtain ⟨T17, hp17, X17, e17, E17, A17, D17, -, st17⟩ := newO X14 hx hZ hown (hw _ (List.mem_of_getElem? (i := 44) rfl)) (hw _ (List.mem_of_getElem? (i := 45) rfl)) (hw _ (List.mem_of_getElem? (i := 46) rfl)) eh14 (g := (mkF m 62 #[.val (.int p1), .val (.int p2), .val (.int p3), .val (.int (0 : Int32)), .val (.int (1 : Int32)), .val (.ref b1), .val (.ref b6), .val (.ref vs), .unset, .unset, .unset] [])) rfl (hb hby at_62) (by decide) (by decide)
  obtain ⟨b17, g17⟩ : ∃ z, z = hh14.size := ⟨_, rfl⟩
  rw [← g17] at A17 D17 st17
  have cf18 := (cf15.keep Kq14 nin0)
  have ne_b1_b17 : b1 ≠ b17 := Nat.ne_of_lt (Nat.lt_of_lt_of_le cf18.lt (Nat.le_of_eq g17.symm))
  have cf19 := (fq11_0.keep Kq14)
  have ne_b6_b17 : b6 ≠ b17 := Nat.ne_of_lt (Nat.lt_of_lt_of_le cf19.lt (Nat.le_of_eq g17.symm))
  have ne_vs_b17 : vs ≠ b17 := Nat.ne_of_lt (Nat.lt_of_lt_of_le fq14_0.lt (Nat.le_of_eq g17.symm))
  have g_b17 : n0 ≤ b17 := Nat.le_trans (Nat.le_trans Z0 Kp14.1) (Nat.le_of_eq g17.symm)
  have sz_b17 : h0.size ≤ b17 := Nat.le_trans Kp14.1 (Nat.le_of_eq g17.symm)
  have hk := Nat.le_trans hk E17.1
  have Kp17 := Keep.ext Kp14 E17
  have F17_60 : Fld Z hp17 b17 "com/example/nokkel/nokkel/core/ClientRecord" "owner" "Ljava/lang/String;" .null := D17 (Or.inr (hw _ (List.mem_of_getElem? (i := 60) rfl))) (ty := (.object "java/lang/String")) (by decide)
  have F17_63 : Fld Z hp17 b17 "com/example/nokkel/nokkel/core/ClientRecord" "verifier" "Ljava/lang/String;" .null := D17 (Or.inr (hw _ (List.mem_of_getElem? (i := 63) rfl))) (ty := (.object "java/lang/String")) (by decide)
  have F17_65 : Fld Z hp17 b17 "com/example/nokkel/nokkel/core/ClientRecord" "locksRevoked" "Z" (.int (0 : Int32)) := D17 (Or.inr (hw _ (List.mem_of_getElem? (i := 65) rfl))) (ty := .boolean) (by decide)
  have F17_67 : Fld Z hp17 b17 "com/example/nokkel/nokkel/core/ClientRecord" "graceMissed" "Z" (.int (0 : Int32)) := D17 (Or.inr (hw _ (List.mem_of_getElem? (i := 67) rfl))) (ty := .boolean) (by decide)
  have ch20 : ∀ t, Steps p.tables e below (T17.setTop (mkF m 65 #[.val (.int p1), .val (.int p2), .val (.int p3), .val (.int (0 : Int32)), .val (.int (1 : Int32)), .val (.ref b1), .val (.ref b6), .val (.ref vs), .unset, .unset, .unset] [(.ref b17)])) t → Steps p.tables e below (s₁.setTop (entryFrame m #[(.int p1), (.int p2), (.int p3)] maxLocals)) t := fun t k => ch16 t (by
      show Steps p.tables e below (T14.setTop (mkF m 60 #[.val (.int p1), .val (.int p2), .val (.int p3), .val (.int (0 : Int32)), .val (.int (1 : Int32)), .val (.ref b1), .val (.ref b6), .unset, .unset, .unset, .unset] [(.ref vs)])) t
      refine XS.astore X14.here hx rfl (hb hby at_60) rfl rfl (l' := #[.val (.int p1), .val (.int p2), .val (.int p3), .val (.int (0 : Int32)), .val (.int (1 : Int32)), .val (.ref b1), .val (.ref b6), .val (.ref vs), .unset, .unset, .unset]) rfl ?_
      show Steps p.tables e below (T14.setTop (mkF m 62 #[.val (.int p1), .val (.int p2), .val (.int p3), .val (.int (0 : Int32)), .val (.int (1 : Int32)), .val (.ref b1), .val (.ref b6), .val (.ref vs), .unset, .unset, .unset] [])) t
      exact st17 t k)
  have cf21 := (cf19.ext E17)
  have cf22 := (fq14_0.ext E17)
  obtain ⟨vv23, _, ⟨T23, L23, kk23, nn23⟩, -, X23, hS2, hgr, ⟨Lc23, hQ23, l23, y23, z23⟩, st23⟩ := X17.specialBackS hx (y := (⟨"com/example/nokkel/nokkel/core/ClientRecord", "<init>", "(Ljava/lang/String;Ljava/lang/String;ZZ)V"⟩ : MethodName)) rfl hown (mvT hZ (hw _ (List.mem_of_getElem? (i := 47) rfl))) (mvT hZ (hw _ (List.mem_of_getElem? (i := 48) rfl))) (mvT hZ (hw _ (List.mem_of_getElem? (i := 49) rfl))) (by decide) (backOfS (W := 1) (own_ini_01 l Z a0 hw [] hp17 n0 (Nat.le_trans Z0 Kp17.1) b17 b6 vs A17 F17_60 F17_63 F17_65 F17_67 g_b17 cf21 cf22) hZ (hw _ (List.mem_of_getElem? (i := 49) rfl)) (hw _ (List.mem_of_getElem? (i := 46) rfl)) (by decide) (by decide)) (g := (mkF m 73 #[.val (.int p1), .val (.int p2), .val (.int p3), .val (.int (0 : Int32)), .val (.int (1 : Int32)), .val (.ref b1), .val (.ref b6), .val (.ref vs), .unset, .unset, .unset] [(.int (1 : Int32)), (.int (0 : Int32)), (.ref vs), (.ref b6), (.ref b17), (.ref b17)])) rfl (by rw [hml]; rfl) (Steps.refl _) (a := b17) (argsL := [(.ref b6), (.ref vs), (.int (0 : Int32)), (.int (1 : Int32))]) (rest := [(.ref b17)]) (lenOf own_pd__Ljava_lang_String_Ljava_lang_String_ZZ_V rfl) rfl (by show 2 * 0 + _ ≤ _; exact Nat.le_of_eq rfl) (hb hby at_73) (fun _ _ => ⟨rfl, e17, (by decide : 6 + 4 ≤ _), (by decide : 15 + 60 ≤ _)⟩)
  dsimp only [Pt.U, Pt.locs, Pt.cells, Pt.slots] at X23 l23 y23 z23 st23 hQ23 hS2 hgr
  subst l23 y23 z23
  obtain ⟨X23, hS, hZ, hown⟩ := rebS hS (by rw [e17]; exact hk) X23 hS2 hgr hZ hown
  obtain ⟨hh23, eh23⟩ : ∃ h, T23.heap = h := ⟨_, rfl⟩
  rw [eh23] at hQ23
  rw [eh23] at hS
  have hk : hh23.size ≤ hh23.size := Nat.le_refl _
  obtain ⟨rfl, Nq23, Kq23, fq23_0, fq23_1, fq23_2, fq23_3, fq23_4⟩ := hQ23
  have N23 := Fr.app N14 Nq23
  have Kp23 := Keep.trans Kp17 Kq23 (allS (Or.inr sz_b17) all0)
  have ch24 : ∀ t, Steps p.tables e below (T23.setTop (mkF m 76 #[.val (.int p1), .val (.int p2), .val (.int p3), .val (.int (0 : Int32)), .val (.int (1 : Int32)), .val (.ref b1), .val (.ref b6), .val (.ref vs), .unset, .unset, .unset] [(.ref b17)])) t → Steps p.tables e below (s₁.setTop (entryFrame m #[(.int p1), (.int p2), (.int p3)] maxLocals)) t := fun t k => ch20 t (by
      show Steps p.tables e below (T17.setTop (mkF m 65 #[.val (.int p1), .val (.int p2), .val (.int p3), .val (.int (0 : Int32)), .val (.int (1 : Int32)), .val (.ref b1), .val (.ref b6), .val (.ref vs), .unset, .unset, .unset] [(.ref b17)])) t
      refine XS.dup X17.here hx rfl (hb hby at_65) rfl rfl ?_
      show Steps p.tables e below (T17.setTop (mkF m 66 #[.val (.int p1), .val (.int p2), .val (.int p3), .val (.int (0 : Int32)), .val (.int (1 : Int32)), .val (.ref b1), .val (.ref b6), .val (.ref vs), .unset, .unset, .unset] [(.ref b17), (.ref b17)])) t
      refine XS.aload X17.here hx rfl (hb hby at_66) rfl rfl ?_
      show Steps p.tables e below (T17.setTop (mkF m 68 #[.val (.int p1), .val (.int p2), .val (.int p3), .val (.int (0 : Int32)), .val (.int (1 : Int32)), .val (.ref b1), .val (.ref b6), .val (.ref vs), .unset, .unset, .unset] [(.ref b6), (.ref b17), (.ref b17)])) t
      refine XS.aload X17.here hx rfl (hb hby at_68) rfl rfl ?_
      show Steps p.tables e below (T17.setTop (mkF m 70 #[.val (.int p1), .val (.int p2), .val (.int p3), .val (.int (0 : Int32)), .val (.int (1 : Int32)), .val (.ref b1), .val (.ref b6), .val (.ref vs), .unset, .unset, .unset] [(.ref vs), (.ref b6), (.ref b17), (.ref b17)])) t
      refine XS.iloadN X17.here hx rfl (hb hby at_70) rfl ?_
      show Steps p.tables e below (T17.setTop (mkF m 71 #[.val (.int p1), .val (.int p2), .val (.int p3), .val (.int (0 : Int32)), .val (.int (1 : Int32)), .val (.ref b1), .val (.ref b6), .val (.ref vs), .unset, .unset, .unset] [(.int (0 : Int32)), (.ref vs), (.ref b6), (.ref b17), (.ref b17)])) t
      refine XS.iload X17.here hx rfl (hb hby at_71) rfl ?_
      show Steps p.tables e below (T17.setTop (mkF m 73 #[.val (.int p1), .val (.int p2), .val (.int p3), .val (.int (0 : Int32)), .val (.int (1 : Int32)), .val (.ref b1), .val (.ref b6), .val (.ref vs), .unset, .unset, .unset] [(.int (1 : Int32)), (.int (0 : Int32)), (.ref vs), (.ref b6), (.ref b17), (.ref b17)])) t
      exact st23.trans k)
  have cf25 := (cf21.keep Kq23)
  have cf26 := (cf22.keep Kq23)
  obtain ⟨cq27, kq27, qa27, qb27, qc27⟩ := isOf hZ eh23 fq23_0
  obtain ⟨vv28, _, ⟨T28, L28, kk28, nn28⟩, -, X28, ⟨Lc28, hQ28, l28, y28, z28⟩, st28⟩ := X23.virtualBack hx (y := (⟨"com/example/nokkel/nokkel/core/ClientRecord", "isMarked", "()Z"⟩ : MethodName)) (z := (⟨"com/example/nokkel/nokkel/core/ClientRecord", "isMarked", "()Z"⟩ : MethodName)) hown (mvT hZ (hw _ (List.mem_of_getElem? (i := 68) rfl))) (mvT hZ (hw _ (List.mem_of_getElem? (i := 69) rfl))) (notFace_of_selects (args := #[]) (mvT hZ (hw _ (List.mem_of_getElem? (i := 71) rfl)))) (mvT hZ (hw _ (List.mem_of_getElem? (i := 71) rfl))) (mvT hZ (hw _ (List.mem_of_getElem? (i := 70) rfl))) (by decide) (backOf (W := 0) (own_mark_01 l Z a0 hw [] hh23 n0 (Nat.le_trans Z0 Kp23.1) b17 b6 vs fq23_1 fq23_2 fq23_3 fq23_4 cf25 cf26) hZ (hw _ (List.mem_of_getElem? (i := 72) rfl)) (hw _ (List.mem_of_getElem? (i := 46) rfl)) (by decide) (by decide)) qa27 qc27 (g := (mkF m 104 #[.val (.int p1), .val (.int p2), .val (.int p3), .val (.int (0 : Int32)), .val (.int (1 : Int32)), .val (.ref b1), .val (.ref b6), .val (.ref vs), .val (.ref b17), .val (.int (1 : Int32)), .unset] [(.ref b17)])) rfl (by rw [hml]; rfl) (Steps.refl _) (argsL := []) (rest := []) (lenOf own_pd___Z rfl) rfl (by show 2 * 0 + _ ≤ _; exact Nat.le_of_eq rfl) (hb hby at_104) (fun _ _ => ⟨rfl, eh23, (by decide : 10 + 0 ≤ _), (by decide : 75 + 0 ≤ _)⟩)
  dsimp only [Pt.U, Pt.locs, Pt.cells, Pt.slots] at X28 l28 y28 z28 st28 hQ28
  subst l28 y28 z28
  obtain ⟨rfl, Nq28, e28⟩ := hQ28
  have N28 := Fr.app N23 Nq28
  have ch29 : ∀ t, Steps p.tables e below (T28.setTop (mkF m 107 #[.val (.int p1), .val (.int p2), .val (.int p3), .val (.int (0 : Int32)), .val (.int (1 : Int32)), .val (.ref b1), .val (.ref b6), .val (.ref vs), .val (.ref b17), .val (.int (1 : Int32)), .unset] [(.int (1 : Int32))])) t → Steps p.tables e below (s₁.setTop (entryFrame m #[(.int p1), (.int p2), (.int p3)] maxLocals)) t := fun t k => ch24 t (by
      show Steps p.tables e below (T23.setTop (mkF m 76 #[.val (.int p1), .val (.int p2), .val (.int p3), .val (.int (0 : Int32)), .val (.int (1 : Int32)), .val (.ref b1), .val (.ref b6), .val (.ref vs), .unset, .unset, .unset] [(.ref b17)])) t
      refine XS.astore X23.here hx rfl (hb hby at_76) rfl rfl (l' := #[.val (.int p1), .val (.int p2), .val (.int p3), .val (.int (0 : Int32)), .val (.int (1 : Int32)), .val (.ref b1), .val (.ref b6), .val (.ref vs), .val (.ref b17), .unset, .unset]) rfl ?_
      show Steps p.tables e below (T23.setTop (mkF m 78 #[.val (.int p1), .val (.int p2), .val (.int p3), .val (.int (0 : Int32)), .val (.int (1 : Int32)), .val (.ref b1), .val (.ref b6), .val (.ref vs), .val (.ref b17), .unset, .unset] [])) t
      refine XS.iloadN X23.here hx rfl (hb hby at_78) rfl ?_
      show Steps p.tables e below (T23.setTop (mkF m 79 #[.val (.int p1), .val (.int p2), .val (.int p3), .val (.int (0 : Int32)), .val (.int (1 : Int32)), .val (.ref b1), .val (.ref b6), .val (.ref vs), .val (.ref b17), .unset, .unset] [(.int (0 : Int32))])) t
      refine XS.ifYes X23.here hx rfl (pc0 := 79) (pc' := 88) rfl (hb hby at_79) rfl ((if0 _ _).trans (teq (by decide : (0 : Int32) = (0 : Int32))).1) (by decide) (by decide) ?_
      show Steps p.tables e below (T23.setTop (mkF m 88 #[.val (.int p1), .val (.int p2), .val (.int p3), .val (.int (0 : Int32)), .val (.int (1 : Int32)), .val (.ref b1), .val (.ref b6), .val (.ref vs), .val (.ref b17), .unset, .unset] [])) t
      refine XS.iload X23.here hx rfl (hb hby at_88) rfl ?_
      show Steps p.tables e below (T23.setTop (mkF m 90 #[.val (.int p1), .val (.int p2), .val (.int p3), .val (.int (0 : Int32)), .val (.int (1 : Int32)), .val (.ref b1), .val (.ref b6), .val (.ref vs), .val (.ref b17), .unset, .unset] [(.int (1 : Int32))])) t
      refine XS.ifNo X23.here hx rfl (hb hby at_90) rfl ((if0 _ _).trans (feq (by decide : ¬ (1 : Int32) = (0 : Int32))).1) ?_
      show Steps p.tables e below (T23.setTop (mkF m 93 #[.val (.int p1), .val (.int p2), .val (.int p3), .val (.int (0 : Int32)), .val (.int (1 : Int32)), .val (.ref b1), .val (.ref b6), .val (.ref vs), .val (.ref b17), .unset, .unset] [])) t
      refine XS.iconst X23.here hx rfl (hb hby at_93) ?_
      show Steps p.tables e below (T23.setTop (mkF m 94 #[.val (.int p1), .val (.int p2), .val (.int p3), .val (.int (0 : Int32)), .val (.int (1 : Int32)), .val (.ref b1), .val (.ref b6), .val (.ref vs), .val (.ref b17), .unset, .unset] [(.int (1 : Int32))])) t
      refine XS.istore X23.here hx rfl (hb hby at_94) rfl (l' := #[.val (.int p1), .val (.int p2), .val (.int p3), .val (.int (0 : Int32)), .val (.int (1 : Int32)), .val (.ref b1), .val (.ref b6), .val (.ref vs), .val (.ref b17), .val (.int (1 : Int32)), .unset]) rfl ?_
      show Steps p.tables e below (T23.setTop (mkF m 96 #[.val (.int p1), .val (.int p2), .val (.int p3), .val (.int (0 : Int32)), .val (.int (1 : Int32)), .val (.ref b1), .val (.ref b6), .val (.ref vs), .val (.ref b17), .val (.int (1 : Int32)), .unset] [])) t
      refine XS.goto X23.here hx rfl (pc0 := 96) (pc' := 102) rfl (hb hby at_96) (by decide) (by decide) ?_
      show Steps p.tables e below (T23.setTop (mkF m 102 #[.val (.int p1), .val (.int p2), .val (.int p3), .val (.int (0 : Int32)), .val (.int (1 : Int32)), .val (.ref b1), .val (.ref b6), .val (.ref vs), .val (.ref b17), .val (.int (1 : Int32)), .unset] [])) t
      refine XS.aload X23.here hx rfl (hb hby at_102) rfl rfl ?_
      show Steps p.tables e below (T23.setTop (mkF m 104 #[.val (.int p1), .val (.int p2), .val (.int p3), .val (.int (0 : Int32)), .val (.int (1 : Int32)), .val (.ref b1), .val (.ref b6), .val (.ref vs), .val (.ref b17), .val (.int (1 : Int32)), .unset] [(.ref b17)])) t
      exact st28.trans k)
  obtain ⟨cq30, kq30, qa30, qb30, qc30⟩ := isOf hZ e28 fq23_0
  obtain ⟨vv31, _, ⟨T31, L31, kk31, nn31⟩, -, X31, hS2, hgr, ⟨Lc31, hQ31, l31, y31, z31⟩, st31⟩ := X28.virtualBackS hx (y := (⟨"com/example/nokkel/nokkel/core/ClientRecord", "withLocksRevoked", "(Z)Lcom/example/nokkel/nokkel/core/ClientRecord;"⟩ : MethodName)) (z := (⟨"com/example/nokkel/nokkel/core/ClientRecord", "withLocksRevoked", "(Z)Lcom/example/nokkel/nokkel/core/ClientRecord;"⟩ : MethodName)) hown (mvT hZ (hw _ (List.mem_of_getElem? (i := 73) rfl))) (mvT hZ (hw _ (List.mem_of_getElem? (i := 74) rfl))) (notFace_of_selects (args := #[]) (mvT hZ (hw _ (List.mem_of_getElem? (i := 76) rfl)))) (mvT hZ (hw _ (List.mem_of_getElem? (i := 76) rfl))) (mvT hZ (hw _ (List.mem_of_getElem? (i := 75) rfl))) (by decide) (backOfS (W := 0) (own_wlr_01 l Z a0 hw [] hh23 n0 (Nat.le_trans Z0 Kp23.1) b17 b6 vs fq23_1 fq23_2 fq23_3 fq23_4 cf25 cf26) hZ (hw _ (List.mem_of_getElem? (i := 77) rfl)) (hw _ (List.mem_of_getElem? (i := 46) rfl)) (by decide) (by decide)) qa30 qc30 (g := (mkF m 117 #[.val (.int p1), .val (.int p2), .val (.int p3), .val (.int (0 : Int32)), .val (.int (1 : Int32)), .val (.ref b1), .val (.ref b6), .val (.ref vs), .val (.ref b17), .val (.int (1 : Int32)), .unset] [(.int (0 : Int32)), (.ref b17)])) rfl (by rw [hml]; rfl) (Steps.refl _) (argsL := [(.int (0 : Int32))]) (rest := []) (lenOf own_pd__Z_Lcom_example_nokkel_nokkel_core_ClientRecord_ rfl) rfl (by show 2 * 0 + _ ≤ _; exact Nat.le_of_eq rfl) (hb hby at_117) (fun _ _ => ⟨rfl, e28, (by decide : 10 + 5 ≤ _), (by decide : 75 + 64 ≤ _)⟩)
  dsimp only [Pt.U, Pt.locs, Pt.cells, Pt.slots] at X31 l31 y31 z31 st31 hQ31 hS2 hgr
  subst l31 y31 z31
  obtain ⟨X31, hS, hZ, hown⟩ := rebS hS (by rw [e28]; exact hk) X31 hS2 hgr hZ hown
  obtain ⟨hh31, eh31⟩ : ∃ h, T31.heap = h := ⟨_, rfl⟩
  rw [eh31] at hQ31
  rw [eh31] at hS
  have hk : hh31.size ≤ hh31.size := Nat.le_refl _
  obtain ⟨ra, rfl, zq31, Nq31, Kq31, fq31_0, fq31_1, fq31_2, fq31_3, fq31_4⟩ := hQ31
  have N31 := Fr.app N28 Nq31
  have cf32 := ((cf18.ext E17).keep Kq23 (ninS ne_b1_b17 nin0))
  have ne_b1_ra : b1 ≠ ra := Nat.ne_of_lt (Nat.lt_of_lt_of_le cf32.lt zq31)
  have ne_b6_ra : b6 ≠ ra := Nat.ne_of_lt (Nat.lt_of_lt_of_le cf25.lt zq31)
  have ne_vs_ra : vs ≠ ra := Nat.ne_of_lt (Nat.lt_of_lt_of_le cf26.lt zq31)
  have ne_b17_ra : b17 ≠ ra := Nat.ne_of_lt (Nat.lt_of_lt_of_le fq23_0.lt zq31)
  have g_ra : n0 ≤ ra := Nat.le_trans (Nat.le_trans Z0 Kp23.1) zq31
  have sz_ra : h0.size ≤ ra := Nat.le_trans Kp23.1 zq31
  have Kp31 := Keep.trans Kp23 Kq31 all0
  have ch33 : ∀ t, Steps p.tables e below (T31.setTop (mkF m 120 #[.val (.int p1), .val (.int p2), .val (.int p3), .val (.int (0 : Int32)), .val (.int (1 : Int32)), .val (.ref b1), .val (.ref b6), .val (.ref vs), .val (.ref b17), .val (.int (1 : Int32)), .unset] [(.ref ra)])) t → Steps p.tables e below (s₁.setTop (entryFrame m #[(.int p1), (.int p2), (.int p3)] maxLocals)) t := fun t k => ch29 t (by
      show Steps p.tables e below (T28.setTop (mkF m 107 #[.val (.int p1), .val (.int p2), .val (.int p3), .val (.int (0 : Int32)), .val (.int (1 : Int32)), .val (.ref b1), .val (.ref b6), .val (.ref vs), .val (.ref b17), .val (.int (1 : Int32)), .unset] [(.int (1 : Int32))])) t
      refine XS.iload X28.here hx rfl (hb hby at_107) rfl ?_
      show Steps p.tables e below (T28.setTop (mkF m 109 #[.val (.int p1), .val (.int p2), .val (.int p3), .val (.int (0 : Int32)), .val (.int (1 : Int32)), .val (.ref b1), .val (.ref b6), .val (.ref vs), .val (.ref b17), .val (.int (1 : Int32)), .unset] [(.int (1 : Int32)), (.int (1 : Int32))])) t
      refine XS.icmpYes X28.here hx rfl (pc0 := 109) (pc' := 114) rfl (hb hby at_109) rfl (teq (by decide : (1 : Int32) = (1 : Int32))).1 (by decide) (by decide) ?_
      show Steps p.tables e below (T28.setTop (mkF m 114 #[.val (.int p1), .val (.int p2), .val (.int p3), .val (.int (0 : Int32)), .val (.int (1 : Int32)), .val (.ref b1), .val (.ref b6), .val (.ref vs), .val (.ref b17), .val (.int (1 : Int32)), .unset] [])) t
      refine XS.aload X28.here hx rfl (hb hby at_114) rfl rfl ?_
      show Steps p.tables e below (T28.setTop (mkF m 116 #[.val (.int p1), .val (.int p2), .val (.int p3), .val (.int (0 : Int32)), .val (.int (1 : Int32)), .val (.ref b1), .val (.ref b6), .val (.ref vs), .val (.ref b17), .val (.int (1 : Int32)), .unset] [(.ref b17)])) t
      refine XS.iconst X28.here hx rfl (hb hby at_116) ?_
      show Steps p.tables e below (T28.setTop (mkF m 117 #[.val (.int p1), .val (.int p2), .val (.int p3), .val (.int (0 : Int32)), .val (.int (1 : Int32)), .val (.ref b1), .val (.ref b6), .val (.ref vs), .val (.ref b17), .val (.int (1 : Int32)), .unset] [(.int (0 : Int32)), (.ref b17)])) t
      exact st31.trans k)
  have cf34 := (cf25.keep Kq31)
  have cf35 := (cf26.keep Kq31)
  obtain ⟨cq36, kq36, qa36, qb36, qc36⟩ := isOf hZ eh31 fq31_0
  obtain ⟨vv37, _, ⟨T37, L37, kk37, nn37⟩, -, X37, hS2, hgr, ⟨Lc37, hQ37, l37, y37, z37⟩, st37⟩ := X31.virtualBackS hx (y := (⟨"com/example/nokkel/nokkel/core/ClientRecord", "withGraceMissed", "(Z)Lcom/example/nokkel/nokkel/core/ClientRecord;"⟩ : MethodName)) (z := (⟨"com/example/nokkel/nokkel/core/ClientRecord", "withGraceMissed", "(Z)Lcom/example/nokkel/nokkel/core/ClientRecord;"⟩ : MethodName)) hown (mvT hZ (hw _ (List.mem_of_getElem? (i := 80) rfl))) (mvT hZ (hw _ (List.mem_of_getElem? (i := 81) rfl))) (notFace_of_selects (args := #[]) (mvT hZ (hw _ (List.mem_of_getElem? (i := 83) rfl)))) (mvT hZ (hw _ (List.mem_of_getElem? (i := 83) rfl))) (mvT hZ (hw _ (List.mem_of_getElem? (i := 82) rfl))) (by decide) (backOfS (W := 0) (own_wgm_01 l Z a0 hw [] hh31 n0 (Nat.le_trans Z0 Kp31.1) ra b6 vs fq31_1 fq31_2 fq31_3 fq31_4 cf34 cf35) hZ (hw _ (List.mem_of_getElem? (i := 84) rfl)) (hw _ (List.mem_of_getElem? (i := 46) rfl)) (by decide) (by decide)) qa36 qc36 (g := (mkF m 121 #[.val (.int p1), .val (.int p2), .val (.int p3), .val (.int (0 : Int32)), .val (.int (1 : Int32)), .val (.ref b1), .val (.ref b6), .val (.ref vs), .val (.ref b17), .val (.int (1 : Int32)), .unset] [(.int (0 : Int32)), (.ref ra)])) rfl (by rw [hml]; rfl) (Steps.refl _) (argsL := [(.int (0 : Int32))]) (rest := []) (lenOf own_pd__Z_Lcom_example_nokkel_nokkel_core_ClientRecord_ rfl) rfl (by show 2 * 0 + _ ≤ _; exact Nat.le_of_eq rfl) (hb hby at_121) (fun _ _ => ⟨rfl, eh31, (by decide : 15 + 5 ≤ _), (by decide : 139 + 64 ≤ _)⟩)
  dsimp only [Pt.U, Pt.locs, Pt.cells, Pt.slots] at X37 l37 y37 z37 st37 hQ37 hS2 hgr
  subst l37 y37 z37
  obtain ⟨X37, hS, hZ, hown⟩ := rebS hS (by rw [eh31]; exact hk) X37 hS2 hgr hZ hown
  obtain ⟨hh37, eh37⟩ : ∃ h, T37.heap = h := ⟨_, rfl⟩
  rw [eh37] at hQ37
  rw [eh37] at hS
  have hk : hh37.size ≤ hh37.size := Nat.le_refl _
  obtain ⟨rz, rfl, zq37, Nq37, Kq37, fq37_0, fq37_1, fq37_2, fq37_3, fq37_4⟩ := hQ37
  have N37 := Fr.app N31 Nq37
  have cf38 := (cf32.keep Kq31 nin0)
  have ne_b1_rz : b1 ≠ rz := Nat.ne_of_lt (Nat.lt_of_lt_of_le cf38.lt zq37)
  have ne_b6_rz : b6 ≠ rz := Nat.ne_of_lt (Nat.lt_of_lt_of_le cf34.lt zq37)
  have ne_vs_rz : vs ≠ rz := Nat.ne_of_lt (Nat.lt_of_lt_of_le cf35.lt zq37)
  have cf39 := (fq23_0.keep Kq31)
  have ne_b17_rz : b17 ≠ rz := Nat.ne_of_lt (Nat.lt_of_lt_of_le cf39.lt zq37)
  have ne_ra_rz : ra ≠ rz := Nat.ne_of_lt (Nat.lt_of_lt_of_le fq31_0.lt zq37)
  have g_rz : n0 ≤ rz := Nat.le_trans (Nat.le_trans Z0 Kp31.1) zq37
  have sz_rz : h0.size ≤ rz := Nat.le_trans Kp31.1 zq37
  have Kp37 := Keep.trans Kp31 Kq37 all0
  have ch40 : ∀ t, Steps p.tables e below (T37.setTop (mkF m 124 #[.val (.int p1), .val (.int p2), .val (.int p3), .val (.int (0 : Int32)), .val (.int (1 : Int32)), .val (.ref b1), .val (.ref b6), .val (.ref vs), .val (.ref b17), .val (.int (1 : Int32)), .unset] [(.ref rz)])) t → Steps p.tables e below (s₁.setTop (entryFrame m #[(.int p1), (.int p2), (.int p3)] maxLocals)) t := fun t k => ch33 t (by
      show Steps p.tables e below (T31.setTop (mkF m 120 #[.val (.int p1), .val (.int p2), .val (.int p3), .val (.int (0 : Int32)), .val (.int (1 : Int32)), .val (.ref b1), .val (.ref b6), .val (.ref vs), .val (.ref b17), .val (.int (1 : Int32)), .unset] [(.ref ra)])) t
      refine XS.iconst X31.here hx rfl (hb hby at_120) ?_
      show Steps p.tables e below (T31.setTop (mkF m 121 #[.val (.int p1), .val (.int p2), .val (.int p3), .val (.int (0 : Int32)), .val (.int (1 : Int32)), .val (.ref b1), .val (.ref b6), .val (.ref vs), .val (.ref b17), .val (.int (1 : Int32)), .unset] [(.int (0 : Int32)), (.ref ra)])) t
      exact st37.trans k)
  have cf41 := (cf34.keep Kq37)
  have cf42 := (cf35.keep Kq37)
  obtain ⟨cq43, kq43, qa43, qb43, qc43⟩ := isOf hZ eh37 fq37_0
  obtain ⟨vv44, _, ⟨T44, L44, kk44, nn44⟩, -, X44, ⟨Lc44, hQ44, l44, y44, z44⟩, st44⟩ := X37.virtualBack hx (y := (⟨"com/example/nokkel/nokkel/core/ClientRecord", "isMarked", "()Z"⟩ : MethodName)) (z := (⟨"com/example/nokkel/nokkel/core/ClientRecord", "isMarked", "()Z"⟩ : MethodName)) hown (mvT hZ (hw _ (List.mem_of_getElem? (i := 68) rfl))) (mvT hZ (hw _ (List.mem_of_getElem? (i := 69) rfl))) (notFace_of_selects (args := #[]) (mvT hZ (hw _ (List.mem_of_getElem? (i := 71) rfl)))) (mvT hZ (hw _ (List.mem_of_getElem? (i := 71) rfl))) (mvT hZ (hw _ (List.mem_of_getElem? (i := 70) rfl))) (by decide) (backOf (W := 0) (own_mark_00 l Z a0 hw [] hh37 n0 (Nat.le_trans Z0 Kp37.1) rz b6 vs fq37_1 fq37_2 fq37_3 fq37_4 cf41 cf42) hZ (hw _ (List.mem_of_getElem? (i := 72) rfl)) (hw _ (List.mem_of_getElem? (i := 46) rfl)) (by decide) (by decide)) qa43 qc43 (g := (mkF m 128 #[.val (.int p1), .val (.int p2), .val (.int p3), .val (.int (0 : Int32)), .val (.int (1 : Int32)), .val (.ref b1), .val (.ref b6), .val (.ref vs), .val (.ref b17), .val (.int (1 : Int32)), .val (.ref rz)] [(.ref rz)])) rfl (by rw [hml]; rfl) (Steps.refl _) (argsL := []) (rest := []) (lenOf own_pd___Z rfl) rfl (by show 2 * 0 + _ ≤ _; exact Nat.le_of_eq rfl) (hb hby at_128) (fun _ _ => ⟨rfl, eh37, (by decide : 20 + 0 ≤ _), (by decide : 203 + 0 ≤ _)⟩)
  dsimp only [Pt.U, Pt.locs, Pt.cells, Pt.slots] at X44 l44 y44 z44 st44 hQ44
  subst l44 y44 z44
  obtain ⟨rfl, Nq44, e44⟩ := hQ44
  have N44 := Fr.app N37 Nq44
  have ch45 : ∀ t, Steps p.tables e below (T44.setTop (mkF m 131 #[.val (.int p1), .val (.int p2), .val (.int p3), .val (.int (0 : Int32)), .val (.int (1 : Int32)), .val (.ref b1), .val (.ref b6), .val (.ref vs), .val (.ref b17), .val (.int (1 : Int32)), .val (.ref rz)] [(.int (0 : Int32))])) t → Steps p.tables e below (s₁.setTop (entryFrame m #[(.int p1), (.int p2), (.int p3)] maxLocals)) t := fun t k => ch40 t (by
      show Steps p.tables e below (T37.setTop (mkF m 124 #[.val (.int p1), .val (.int p2), .val (.int p3), .val (.int (0 : Int32)), .val (.int (1 : Int32)), .val (.ref b1), .val (.ref b6), .val (.ref vs), .val (.ref b17), .val (.int (1 : Int32)), .unset] [(.ref rz)])) t
      refine XS.astore X37.here hx rfl (hb hby at_124) rfl rfl (l' := #[.val (.int p1), .val (.int p2), .val (.int p3), .val (.int (0 : Int32)), .val (.int (1 : Int32)), .val (.ref b1), .val (.ref b6), .val (.ref vs), .val (.ref b17), .val (.int (1 : Int32)), .val (.ref rz)]) rfl ?_
      show Steps p.tables e below (T37.setTop (mkF m 126 #[.val (.int p1), .val (.int p2), .val (.int p3), .val (.int (0 : Int32)), .val (.int (1 : Int32)), .val (.ref b1), .val (.ref b6), .val (.ref vs), .val (.ref b17), .val (.int (1 : Int32)), .val (.ref rz)] [])) t
      refine XS.aload X37.here hx rfl (hb hby at_126) rfl rfl ?_
      show Steps p.tables e below (T37.setTop (mkF m 128 #[.val (.int p1), .val (.int p2), .val (.int p3), .val (.int (0 : Int32)), .val (.int (1 : Int32)), .val (.ref b1), .val (.ref b6), .val (.ref vs), .val (.ref b17), .val (.int (1 : Int32)), .val (.ref rz)] [(.ref rz)])) t
      exact st44.trans k)
  have ch46 : ∀ t, Steps p.tables e below (T44.setTop (mkF m 137 #[.val (.int p1), .val (.int p2), .val (.int p3), .val (.int (0 : Int32)), .val (.int (1 : Int32)), .val (.ref b1), .val (.ref b6), .val (.ref vs), .val (.ref b17), .val (.int (1 : Int32)), .val (.ref rz)] [(.int (1 : Int32))])) t → Steps p.tables e below (s₁.setTop (entryFrame m #[(.int p1), (.int p2), (.int p3)] maxLocals)) t := fun t k => ch45 t (by
      show Steps p.tables e below (T44.setTop (mkF m 131 #[.val (.int p1), .val (.int p2), .val (.int p3), .val (.int (0 : Int32)), .val (.int (1 : Int32)), .val (.ref b1), .val (.ref b6), .val (.ref vs), .val (.ref b17), .val (.int (1 : Int32)), .val (.ref rz)] [(.int (0 : Int32))])) t
      refine XS.ifYes X44.here hx rfl (pc0 := 131) (pc' := 136) rfl (hb hby at_131) rfl ((if0 _ _).trans (teq (by decide : (0 : Int32) = (0 : Int32))).1) (by decide) (by decide) ?_
      show Steps p.tables e below (T44.setTop (mkF m 136 #[.val (.int p1), .val (.int p2), .val (.int p3), .val (.int (0 : Int32)), .val (.int (1 : Int32)), .val (.ref b1), .val (.ref b6), .val (.ref vs), .val (.ref b17), .val (.int (1 : Int32)), .val (.ref rz)] [])) t
      refine XS.iconst X44.here hx rfl (hb hby at_136) ?_
      exact k)
  obtain ⟨fs, hr, hrun, hended, hend⟩ := X44.leaveW hS (by rw [e44]; exact hk) (v := some (.int (1 : Int32))) (fun h => by rw [Bd.returns] at h; cases h)
  refine ⟨_, _, ch46 _ ?_, hrun, hended, _, _, rfl, ?_, hend.1, hend.2.1, hend.2.2.1, hend.2.2.2.mono (by decide) (by decide)⟩
  · show Steps p.tables e below (T44.setTop (mkF m 137 #[.val (.int p1), .val (.int p2), .val (.int p3), .val (.int (0 : Int32)), .val (.int (1 : Int32)), .val (.ref b1), .val (.ref b6), .val (.ref vs), .val (.ref b17), .val (.int (1 : Int32)), .val (.ref rz)] [(.int (1 : Int32))])) _
    exact retN X44 hx (t := .boolean) Bd.returns (by simp) (hb hby at_137) hr
  · show QN (some (.int (1 : Int32))) n0 _ T44.heap _
    rw [e44]
    exact ⟨rfl, N44⟩
theorem own_ef_own_law_10 (m : MethodId) {x0 : Int32} {x1 : Int32} {x2 : Int32} : entryFrame m #[(.int x0), (.int x1), (.int x2)] maxLocals = mkF m 0 #[.val (.int x0), .val (.int x1), .val (.int x2), .unset, .unset, .unset, .unset, .unset, .unset, .unset, .unset] [] := by first | (simp [entryFrame, mkF, argsToLocals, Value.category, maxLocals]; done) | rfl
set_option maxRecDepth 65536 in
set_option maxHeartbeats 40000000 in
theorem own_law_10 (l : Launch) (Z : State) (a0 : Array Value) (hw : ∀ d ∈ tables_1, d.before a0 Z = true) (ws : List Jvm.Cond) (h0 : Heap) (n0 : Nat) (Z0 : n0 ≤ h0.size) (p1 p2 p3 : Int32) (s0 : ¬ (p1 &&& (1 : Int32)) = (0 : Int32)) (s1 : (p1 &&& (2 : Int32)) = (0 : Int32)) (zC : Int32) (S_CS : Sta Z h0 "java/lang/String" "COMPACT_STRINGS" "Z" (.int zC)) (P5 : ¬ (zC = (0 : Int32))) :
    MetFree l x (head1 (Jvm.Cond.code x code maxLocals ret :: ws) room_1) (fun a U => a = #[(.int p1), (.int p2), (.int p3)] ∧ Z.Warmed39 U.vm ∧ U.heap = h0) (fun _ _ _ _ _ => True) (fun _ U o U' => ∃ v L, o = .returned v ∧ QN (some (.int (1 : Int32))) n0 v U'.heap L ∧ ReturnedEndW U o U' L room_1.cells room_1.slots) := by
  refine MetFree.of_bodySF (plainFor_of_name own_pn_com_example_nokkel_nokkel_core_ClientRecordIsMarkedPinLaw) hisR ?_
  intro p e s m args below meth c s₁ Bd hml0 hP hK
  obtain ⟨rfl, hZ, hh⟩ := hP
  have hx := Bd.exec
  have hby := Bd.bytes
  have hml : c.maxLocals = 11 := hml0
  have hown : s.vm.findClass "com/example/nokkel/nokkel/core/ClientRecordIsMarkedPinLaw" = some m.cls := findClass_of_methodNamed Bd.named
  have hnm := (name_of_methodNamed Bd.named Bd.method).1
  have X0 : Stand p l e room_1 (s.setVm s.vm) m #[(.int p1), (.int p2), (.int p3)] below meth c s₁ [] 0 0 := Stand.of_body Bd
  have hZ : Z.Warmed39 (s.setVm s.vm).vm := hZ
  have hown : (s.setVm s.vm).vm.findClass "com/example/nokkel/nokkel/core/ClientRecordIsMarkedPinLaw" = some m.cls := hown
  have hS : s.Since s.vm 0 := (State.WarmedH.refl s).since 0
  have hk : 0 ≤ h0.size := Nat.zero_le _
  have e0 : s₁.heap = h0 := by rw [← hh, Bd.state]; rfl
  have N0 := Fr.nil n0
  have pre0 : ∀ t, Steps p.tables e below (s₁.setTop (mkF m 0 #[.val (.int p1), .val (.int p2), .val (.int p3), .unset, .unset, .unset, .unset, .unset, .unset, .unset, .unset] [])) t → Steps p.tables e below (s₁.setTop (entryFrame m #[(.int p1), (.int p2), (.int p3)] maxLocals)) t := fun t k => castTop (own_ef_own_law_10 m) k
  obtain ⟨T1, hp1, k1, X1, e1, E1, A1, st1⟩ := newP X0 hx hZ (hw _ (List.mem_of_getElem? (i := 0) rfl)) e0 (g := (mkF m 26 #[.val (.int p1), .val (.int p2), .val (.int p3), .val (.int (1 : Int32)), .val (.int (0 : Int32)), .unset, .unset, .unset, .unset, .unset, .unset] [(.int (1 : Int32))])) rfl (hb hby at_26) rfl (by decide) (cap := 1) (by decide) (by decide) (by decide) (by decide)
  obtain ⟨b1, g1⟩ : ∃ z, z = h0.size := ⟨_, rfl⟩
  rw [← g1] at A1 st1
  have g_b1 : n0 ≤ b1 := Nat.le_trans (Nat.le_trans Z0 (Keep.refl h0 []).1) (Nat.le_of_eq g1.symm)
  have sz_b1 : h0.size ≤ b1 := Nat.le_trans (Keep.refl h0 []).1 (Nat.le_of_eq g1.symm)
  have hk := Nat.le_trans hk E1.1
  have Kp1 := Keep.ext (Keep.refl h0 []) E1
  have V1 : Arv Z hp1 b1 k1 .char (1 : Int32) [(.int (0 : Int32))] (.int (0 : Int32)) := (Arv.new A1 (by decide)).pad (pad_rep [] (.int (0 : Int32)) 1)
  have ch2 : ∀ t, Steps p.tables e below (T1.setTop (mkF m 28 #[.val (.int p1), .val (.int p2), .val (.int p3), .val (.int (1 : Int32)), .val (.int (0 : Int32)), .unset, .unset, .unset, .unset, .unset, .unset] [(.ref b1)])) t → Steps p.tables e below (s₁.setTop (entryFrame m #[(.int p1), (.int p2), (.int p3)] maxLocals)) t := fun t k => pre0 t (by
      show Steps p.tables e below (s₁.setTop (mkF m 0 #[.val (.int p1), .val (.int p2), .val (.int p3), .unset, .unset, .unset, .unset, .unset, .unset, .unset, .unset] [])) t
      refine XS.iloadN X0.here hx rfl (hb hby at_0) rfl ?_
      show Steps p.tables e below (s₁.setTop (mkF m 1 #[.val (.int p1), .val (.int p2), .val (.int p3), .unset, .unset, .unset, .unset, .unset, .unset, .unset, .unset] [(.int p1)])) t
      refine XS.iconst X0.here hx rfl (hb hby at_1) ?_
      show Steps p.tables e below (s₁.setTop (mkF m 2 #[.val (.int p1), .val (.int p2), .val (.int p3), .unset, .unset, .unset, .unset, .unset, .unset, .unset, .unset] [(.int (1 : Int32)), (.int p1)])) t
      refine XS.iand X0.here hx rfl (hb hby at_2) rfl ?_
      show Steps p.tables e below (s₁.setTop (mkF m 3 #[.val (.int p1), .val (.int p2), .val (.int p3), .unset, .unset, .unset, .unset, .unset, .unset, .unset, .unset] [(.int (p1 &&& (1 : Int32)))])) t
      refine XS.ifNo X0.here hx rfl (hb hby at_3) rfl ((if0 _ _).trans (feq s0).1) ?_
      show Steps p.tables e below (s₁.setTop (mkF m 6 #[.val (.int p1), .val (.int p2), .val (.int p3), .unset, .unset, .unset, .unset, .unset, .unset, .unset, .unset] [])) t
      refine XS.iconst X0.here hx rfl (hb hby at_6) ?_
      show Steps p.tables e below (s₁.setTop (mkF m 7 #[.val (.int p1), .val (.int p2), .val (.int p3), .unset, .unset, .unset, .unset, .unset, .unset, .unset, .unset] [(.int (1 : Int32))])) t
      refine XS.goto X0.here hx rfl (pc0 := 7) (pc' := 11) rfl (hb hby at_7) (by decide) (by decide) ?_
      show Steps p.tables e below (s₁.setTop (mkF m 11 #[.val (.int p1), .val (.int p2), .val (.int p3), .unset, .unset, .unset, .unset, .unset, .unset, .unset, .unset] [(.int (1 : Int32))])) t
      refine XS.istoreN X0.here hx rfl (hb hby at_11) rfl (l' := #[.val (.int p1), .val (.int p2), .val (.int p3), .val (.int (1 : Int32)), .unset, .unset, .unset, .unset, .unset, .unset, .unset]) rfl ?_
      show Steps p.tables e below (s₁.setTop (mkF m 12 #[.val (.int p1), .val (.int p2), .val (.int p3), .val (.int (1 : Int32)), .unset, .unset, .unset, .unset, .unset, .unset, .unset] [])) t
      refine XS.iloadN X0.here hx rfl (hb hby at_12) rfl ?_
      show Steps p.tables e below (s₁.setTop (mkF m 13 #[.val (.int p1), .val (.int p2), .val (.int p3), .val (.int (1 : Int32)), .unset, .unset, .unset, .unset, .unset, .unset, .unset] [(.int p1)])) t
      refine XS.iconst X0.here hx rfl (hb hby at_13) ?_
      show Steps p.tables e below (s₁.setTop (mkF m 14 #[.val (.int p1), .val (.int p2), .val (.int p3), .val (.int (1 : Int32)), .unset, .unset, .unset, .unset, .unset, .unset, .unset] [(.int (2 : Int32)), (.int p1)])) t
      refine XS.iand X0.here hx rfl (hb hby at_14) rfl ?_
      show Steps p.tables e below (s₁.setTop (mkF m 15 #[.val (.int p1), .val (.int p2), .val (.int p3), .val (.int (1 : Int32)), .unset, .unset, .unset, .unset, .unset, .unset, .unset] [(.int (p1 &&& (2 : Int32)))])) t
      refine XS.ifYes X0.here hx rfl (pc0 := 15) (pc' := 22) rfl (hb hby at_15) rfl ((if0 _ _).trans (teq s1).1) (by decide) (by decide) ?_
      show Steps p.tables e below (s₁.setTop (mkF m 22 #[.val (.int p1), .val (.int p2), .val (.int p3), .val (.int (1 : Int32)), .unset, .unset, .unset, .unset, .unset, .unset, .unset] [])) t
      refine XS.iconst X0.here hx rfl (hb hby at_22) ?_
      show Steps p.tables e below (s₁.setTop (mkF m 23 #[.val (.int p1), .val (.int p2), .val (.int p3), .val (.int (1 : Int32)), .unset, .unset, .unset, .unset, .unset, .unset, .unset] [(.int (0 : Int32))])) t
      refine XS.istore X0.here hx rfl (hb hby at_23) rfl (l' := #[.val (.int p1), .val (.int p2), .val (.int p3), .val (.int (1 : Int32)), .val (.int (0 : Int32)), .unset, .unset, .unset, .unset, .unset, .unset]) rfl ?_
      show Steps p.tables e below (s₁.setTop (mkF m 25 #[.val (.int p1), .val (.int p2), .val (.int p3), .val (.int (1 : Int32)), .val (.int (0 : Int32)), .unset, .unset, .unset, .unset, .unset, .unset] [])) t
      refine XS.iconst X0.here hx rfl (hb hby at_25) ?_
      show Steps p.tables e below (s₁.setTop (mkF m 26 #[.val (.int p1), .val (.int p2), .val (.int p3), .val (.int (1 : Int32)), .val (.int (0 : Int32)), .unset, .unset, .unset, .unset, .unset, .unset] [(.int (1 : Int32))])) t
      exact st1 t k)
  obtain ⟨cl3, Ar3, qq3, Sz3, Ng3, Ha3, Ga3⟩ := id V1
  have hin3 : ¬ ((0 : Int32) < 0 ∨ cl3.slots.size ≤ ((0 : Int32)).toNatClampNeg) := inb_of Sz3 (by decide)
  obtain ⟨T4, hp4, X4, e4, W4, st4⟩ := stC X1 hx hZ e1 Ar3 (j := (0 : Int32)) hin3 (g := (mkF m 39 #[.val (.int p1), .val (.int p2), .val (.int p3), .val (.int (1 : Int32)), .val (.int (0 : Int32)), .val (.ref b1), .unset, .unset, .unset, .unset, .unset] [(.int ((p2 &&& (255 : Int32)).toUInt32.toUInt16.toUInt32.toInt32)), (.int (0 : Int32)), (.ref b1)])) rfl rfl (hb hby at_39)
  have ch5 : ∀ t, Steps p.tables e below (T4.setTop (mkF m 40 #[.val (.int p1), .val (.int p2), .val (.int p3), .val (.int (1 : Int32)), .val (.int (0 : Int32)), .val (.ref b1), .unset, .unset, .unset, .unset, .unset] [])) t → Steps p.tables e below (s₁.setTop (entryFrame m #[(.int p1), (.int p2), (.int p3)] maxLocals)) t := fun t k => ch2 t (by
      show Steps p.tables e below (T1.setTop (mkF m 28 #[.val (.int p1), .val (.int p2), .val (.int p3), .val (.int (1 : Int32)), .val (.int (0 : Int32)), .unset, .unset, .unset, .unset, .unset, .unset] [(.ref b1)])) t
      refine XS.astore X1.here hx rfl (hb hby at_28) rfl rfl (l' := #[.val (.int p1), .val (.int p2), .val (.int p3), .val (.int (1 : Int32)), .val (.int (0 : Int32)), .val (.ref b1), .unset, .unset, .unset, .unset, .unset]) rfl ?_
      show Steps p.tables e below (T1.setTop (mkF m 30 #[.val (.int p1), .val (.int p2), .val (.int p3), .val (.int (1 : Int32)), .val (.int (0 : Int32)), .val (.ref b1), .unset, .unset, .unset, .unset, .unset] [])) t
      refine XS.aload X1.here hx rfl (hb hby at_30) rfl rfl ?_
      show Steps p.tables e below (T1.setTop (mkF m 32 #[.val (.int p1), .val (.int p2), .val (.int p3), .val (.int (1 : Int32)), .val (.int (0 : Int32)), .val (.ref b1), .unset, .unset, .unset, .unset, .unset] [(.ref b1)])) t
      refine XS.iconst X1.here hx rfl (hb hby at_32) ?_
      show Steps p.tables e below (T1.setTop (mkF m 33 #[.val (.int p1), .val (.int p2), .val (.int p3), .val (.int (1 : Int32)), .val (.int (0 : Int32)), .val (.ref b1), .unset, .unset, .unset, .unset, .unset] [(.int (0 : Int32)), (.ref b1)])) t
      refine XS.iloadN X1.here hx rfl (hb hby at_33) rfl ?_
      show Steps p.tables e below (T1.setTop (mkF m 34 #[.val (.int p1), .val (.int p2), .val (.int p3), .val (.int (1 : Int32)), .val (.int (0 : Int32)), .val (.ref b1), .unset, .unset, .unset, .unset, .unset] [(.int p2), (.int (0 : Int32)), (.ref b1)])) t
      refine XS.sipush X1.here hx rfl (hb hby at_34) ?_
      show Steps p.tables e below (T1.setTop (mkF m 37 #[.val (.int p1), .val (.int p2), .val (.int p3), .val (.int (1 : Int32)), .val (.int (0 : Int32)), .val (.ref b1), .unset, .unset, .unset, .unset, .unset] [(.int (255 : Int32)), (.int p2), (.int (0 : Int32)), (.ref b1)])) t
      refine XS.iand X1.here hx rfl (hb hby at_37) rfl ?_
      show Steps p.tables e below (T1.setTop (mkF m 38 #[.val (.int p1), .val (.int p2), .val (.int p3), .val (.int (1 : Int32)), .val (.int (0 : Int32)), .val (.ref b1), .unset, .unset, .unset, .unset, .unset] [(.int (p2 &&& (255 : Int32))), (.int (0 : Int32)), (.ref b1)])) t
      refine XS.i2c X1.here hx rfl (hb hby at_38) rfl ?_
      show Steps p.tables e below (T1.setTop (mkF m 39 #[.val (.int p1), .val (.int p2), .val (.int p3), .val (.int (1 : Int32)), .val (.int (0 : Int32)), .val (.ref b1), .unset, .unset, .unset, .unset, .unset] [(.int ((p2 &&& (255 : Int32)).toUInt32.toUInt16.toUInt32.toInt32)), (.int (0 : Int32)), (.ref b1)])) t
      exact st4 t k)
  have V4 : Arv Z hp4 b1 k1 .char (1 : Int32) [(.int (nar .char ((p2 &&& (255 : Int32)).toUInt32.toUInt16.toUInt32.toInt32)))] (.int (0 : Int32)) := Arv.set Ar3 qq3 Sz3 Ng3 Ha3 Ga3 (fits_nar_char _) W4 0 rfl (Nat.le_of_ble_eq_true rfl)
  have hk := Nat.le_trans hk (Keep.of_wr W4).1
  have N4 := Fr.snoc X4 N0 g_b1
  have Kp4 := Keep.wr Kp1 W4 (Or.inr sz_b1)
  obtain ⟨T6, hp6, X6, e6, E6, A6, D6, -, st6⟩ := newO X4 hx hZ hown (hw _ (List.mem_of_getElem? (i := 1) rfl)) (hw _ (List.mem_of_getElem? (i := 2) rfl)) (hw _ (List.mem_of_getElem? (i := 3) rfl)) e4 (g := (mkF m 40 #[.val (.int p1), .val (.int p2), .val (.int p3), .val (.int (1 : Int32)), .val (.int (0 : Int32)), .val (.ref b1), .unset, .unset, .unset, .unset, .unset] [])) rfl (hb hby at_40) (by decide) (by decide)
  obtain ⟨b6, g6⟩ : ∃ z, z = hp4.size := ⟨_, rfl⟩
  rw [← g6] at A6 D6 st6
  have ne_b1_b6 : b1 ≠ b6 := Nat.ne_of_lt (Nat.lt_of_lt_of_le V4.lt (Nat.le_of_eq g6.symm))
  have g_b6 : n0 ≤ b6 := Nat.le_trans (Nat.le_trans Z0 Kp4.1) (Nat.le_of_eq g6.symm)
  have sz_b6 : h0.size ≤ b6 := Nat.le_trans Kp4.1 (Nat.le_of_eq g6.symm)
  have hk := Nat.le_trans hk E6.1
  have Kp6 := Keep.ext Kp4 E6
  have F6_27 : Fld Z hp6 b6 "java/lang/String" "coder" "B" (.int (0 : Int32)) := D6 (Or.inr (hw _ (List.mem_of_getElem? (i := 27) rfl))) (ty := .byte) (by decide)
  have F6_29 : Fld Z hp6 b6 "java/lang/String" "value" "[B" .null := D6 (Or.inr (hw _ (List.mem_of_getElem? (i := 29) rfl))) (ty := (.array .byte)) (by decide)
  have ch7 : ∀ t, Steps p.tables e below (T6.setTop (mkF m 43 #[.val (.int p1), .val (.int p2), .val (.int p3), .val (.int (1 : Int32)), .val (.int (0 : Int32)), .val (.ref b1), .unset, .unset, .unset, .unset, .unset] [(.ref b6)])) t → Steps p.tables e below (s₁.setTop (entryFrame m #[(.int p1), (.int p2), (.int p3)] maxLocals)) t := fun t k => ch5 t (by
      show Steps p.tables e below (T4.setTop (mkF m 40 #[.val (.int p1), .val (.int p2), .val (.int p3), .val (.int (1 : Int32)), .val (.int (0 : Int32)), .val (.ref b1), .unset, .unset, .unset, .unset, .unset] [])) t
      exact st6 t k)
  have hp8 : ∀ c ∈ ([(nar .char ((p2 &&& (255 : Int32)).toUInt32.toUInt16.toUInt32.toInt32))] : List Int32), ¬ c < 0 ∧ ¬ (255 : Int32) < c := by
    intro c hc
    simp only [List.mem_cons, List.not_mem_nil, or_false] at hc
    rcases hc with rfl
    · exact own_chr p2
  have cf9 := (V4.ext E6)
  have cf10 := (own_sta_keep S_CS Kp6 all0)
  obtain ⟨vv11, _, ⟨T11, L11, kk11, nn11⟩, -, X11, ⟨Lc11, hQ11, l11, y11, z11⟩, st11⟩ := X6.specialBack hx (y := (⟨"java/lang/String", "<init>", "([C)V"⟩ : MethodName)) rfl hown (mvT hZ (hw _ (List.mem_of_getElem? (i := 4) rfl))) (mvT hZ (hw _ (List.mem_of_getElem? (i := 5) rfl))) (mvT hZ (hw _ (List.mem_of_getElem? (i := 6) rfl))) (by decide) (StrChars.Road.backV (W := 1) hZ (own_words hw) (kI := 4) (hw _ (List.mem_of_getElem? (i := 2) rfl)) (cs := ([(nar .char ((p2 &&& (255 : Int32)).toUInt32.toUInt16.toUInt32.toInt32))] : List Int32)) (bs := (([(nar .char ((p2 &&& (255 : Int32)).toUInt32.toUInt16.toUInt32.toInt32))] : List Int32)).map (fun c => c.toInt8.toInt32)) (n := 1) g_b6 (Nat.le_trans Z0 Kp6.1) A6 F6_29 F6_27 cf9 cf10 P5 rfl rfl (by decide) (by decide) hp8 rfl (by decide) (by decide)) (g := (mkF m 46 #[.val (.int p1), .val (.int p2), .val (.int p3), .val (.int (1 : Int32)), .val (.int (0 : Int32)), .val (.ref b1), .unset, .unset, .unset, .unset, .unset] [(.ref b1), (.ref b6), (.ref b6)])) rfl (by rw [hml]; rfl) (Steps.refl _) (a := b6) (argsL := [(.ref b1)]) (rest := [(.ref b6)]) (lenOf own_pd___C_V rfl) rfl (by show 2 * 0 + _ ≤ _; exact Nat.le_of_eq rfl) (hb hby at_46) (fun _ _ => ⟨rfl, e6, (by decide : 2 + 1 ≤ _), (by decide : 5 + 1 ≤ _)⟩)
  dsimp only [Pt.U, Pt.locs, Pt.cells, Pt.slots] at X11 l11 y11 z11 st11 hQ11
  subst l11 y11 z11
  obtain ⟨hh11, eh11⟩ : ∃ h, T11.heap = h := ⟨_, rfl⟩
  rw [eh11] at hQ11
  obtain ⟨rfl, Nq11, Kq11, fq11_0, fq11_1⟩ := hQ11
  have N11 := Fr.app N4 Nq11
  have hk := Nat.le_trans hk Kq11.1
  have Kp11 := Keep.trans Kp6 Kq11 (allS (Or.inr sz_b6) all0)
  have ch12 : ∀ t, Steps p.tables e below (T11.setTop (mkF m 49 #[.val (.int p1), .val (.int p2), .val (.int p3), .val (.int (1 : Int32)), .val (.int (0 : Int32)), .val (.ref b1), .unset, .unset, .unset, .unset, .unset] [(.ref b6)])) t → Steps p.tables e below (s₁.setTop (entryFrame m #[(.int p1), (.int p2), (.int p3)] maxLocals)) t := fun t k => ch7 t (by
      show Steps p.tables e below (T6.setTop (mkF m 43 #[.val (.int p1), .val (.int p2), .val (.int p3), .val (.int (1 : Int32)), .val (.int (0 : Int32)), .val (.ref b1), .unset, .unset, .unset, .unset, .unset] [(.ref b6)])) t
      refine XS.dup X6.here hx rfl (hb hby at_43) rfl rfl ?_
      show Steps p.tables e below (T6.setTop (mkF m 44 #[.val (.int p1), .val (.int p2), .val (.int p3), .val (.int (1 : Int32)), .val (.int (0 : Int32)), .val (.ref b1), .unset, .unset, .unset, .unset, .unset] [(.ref b6), (.ref b6)])) t
      refine XS.aload X6.here hx rfl (hb hby at_44) rfl rfl ?_
      show Steps p.tables e below (T6.setTop (mkF m 46 #[.val (.int p1), .val (.int p2), .val (.int p3), .val (.int (1 : Int32)), .val (.int (0 : Int32)), .val (.ref b1), .unset, .unset, .unset, .unset, .unset] [(.ref b1), (.ref b6), (.ref b6)])) t
      exact st11.trans k)
  have cf13 := (own_sta_keep cf10 Kq11 (allS (fun c hc => own_exa_plain A6 c hc) all0))
  obtain ⟨vv14, _, ⟨T14, L14, kk14, nn14⟩, -, X14, ⟨Lc14, hQ14, l14, y14, z14⟩, st14⟩ := Jvm.LawKit.callS X11 hx (y := (⟨"java/lang/String", "valueOf", "(C)Ljava/lang/String;"⟩ : MethodName)) hown (mvT hZ (hw _ (List.mem_of_getElem? (i := 30) rfl))) (mvT hZ (hw _ (List.mem_of_getElem? (i := 31) rfl))) (mvT hZ (hw _ (List.mem_of_getElem? (i := 3) rfl))) (mvT hZ (hw _ (List.mem_of_getElem? (i := 32) rfl))) (by decide) (backOf (W := 0) (own_vof l Z a0 hw [] hh11 n0 (Nat.le_trans Z0 Kp11.1) ((p3 &&& (255 : Int32)).toUInt32.toUInt16.toUInt32.toInt32) (own_chr2 p3) zC cf13 P5) hZ (hw _ (List.mem_of_getElem? (i := 32) rfl)) (hw _ (List.mem_of_getElem? (i := 3) rfl)) (by decide) (by decide)) (g := (mkF m 57 #[.val (.int p1), .val (.int p2), .val (.int p3), .val (.int (1 : Int32)), .val (.int (0 : Int32)), .val (.ref b1), .val (.ref b6), .unset, .unset, .unset, .unset] [(.int ((p3 &&& (255 : Int32)).toUInt32.toUInt16.toUInt32.toInt32))])) rfl (by rw [hml]; rfl) (argsL := [(.int ((p3 &&& (255 : Int32)).toUInt32.toUInt16.toUInt32.toInt32))]) (rest := []) (lenOf own_pd__C_Ljava_lang_String_ rfl) rfl (by show 2 * 0 + _ ≤ _; exact Nat.le_of_eq rfl) (hb hby at_57) (fun _ _ => ⟨rfl, eh11, (by decide : 3 + 2 ≤ _), (by decide : 6 + 5 ≤ _)⟩)
  dsimp only [Pt.U, Pt.locs, Pt.cells, Pt.slots] at X14 l14 y14 z14 st14 hQ14
  subst l14 y14 z14
  obtain ⟨hh14, eh14⟩ : ∃ h, T14.heap = h := ⟨_, rfl⟩
  rw [eh14] at hQ14
  obtain ⟨vs, rfl, zq14, Nq14, Kq14, fq14_0⟩ := hQ14
  have N14 := Fr.app N11 Nq14
  have hk := Nat.le_trans hk Kq14.1
  have cf15 := (cf9.keep Kq11 (ninS ne_b1_b6 nin0))
  have ne_b1_vs : b1 ≠ vs := Nat.ne_of_lt (Nat.lt_of_lt_of_le cf15.lt zq14)
  have ne_b6_vs : b6 ≠ vs := Nat.ne_of_lt (Nat.lt_of_lt_of_le fq11_0.lt zq14)
  have g_vs : n0 ≤ vs := Nat.le_trans (Nat.le_trans Z0 Kp11.1) zq14
  have sz_vs : h0.size ≤ vs := Nat.le_trans Kp11.1 zq14
  have Kp14 := Keep.trans Kp11 Kq14 all0
  have ch16 : ∀ t, Steps p.tables e below (T14.setTop (mkF m 60 #[.val (.int p1), .val (.int p2), .val (.int p3), .val (.int (1 : Int32)), .val (.int (0 : Int32)), .val (.ref b1), .val (.ref b6), .unset, .unset, .unset, .unset] [(.ref vs)])) t → Steps p.tables e below (s₁.setTop (entryFrame m #[(.int p1), (.int p2), (.int p3)] maxLocals)) t := fun t k => ch12 t (by
      show Steps p.tables e below (T11.setTop (mkF m 49 #[.val (.int p1), .val (.int p2), .val (.int p3), .val (.int (1 : Int32)), .val (.int (0 : Int32)), .val (.ref b1), .unset, .unset, .unset, .unset, .unset] [(.ref b6)])) t
      refine XS.astore X11.here hx rfl (hb hby at_49) rfl rfl (l' := #[.val (.int p1), .val (.int p2), .val (.int p3), .val (.int (1 : Int32)), .val (.int (0 : Int32)), .val (.ref b1), .val (.ref b6), .unset, .unset, .unset, .unset]) rfl ?_
      show Steps p.tables e below (T11.setTop (mkF m 51 #[.val (.int p1), .val (.int p2), .val (.int p3), .val (.int (1 : Int32)), .val (.int (0 : Int32)), .val (.ref b1), .val (.ref b6), .unset, .unset, .unset, .unset] [])) t
      refine XS.iloadN X11.here hx rfl (hb hby at_51) rfl ?_
      show Steps p.tables e below (T11.setTop (mkF m 52 #[.val (.int p1), .val (.int p2), .val (.int p3), .val (.int (1 : Int32)), .val (.int (0 : Int32)), .val (.ref b1), .val (.ref b6), .unset, .unset, .unset, .unset] [(.int p3)])) t
      refine XS.sipush X11.here hx rfl (hb hby at_52) ?_
      show Steps p.tables e below (T11.setTop (mkF m 55 #[.val (.int p1), .val (.int p2), .val (.int p3), .val (.int (1 : Int32)), .val (.int (0 : Int32)), .val (.ref b1), .val (.ref b6), .unset, .unset, .unset, .unset] [(.int (255 : Int32)), (.int p3)])) t
      refine XS.iand X11.here hx rfl (hb hby at_55) rfl ?_
      show Steps p.tables e below (T11.setTop (mkF m 56 #[.val (.int p1), .val (.int p2), .val (.int p3), .val (.int (1 : Int32)), .val (.int (0 : Int32)), .val (.ref b1), .val (.ref b6), .unset, .unset, .unset, .unset] [(.int (p3 &&& (255 : Int32)))])) t
      refine XS.i2c X11.here hx rfl (hb hby at_56) rfl ?_
      show Steps p.tables e below (T11.setTop (mkF m 57 #[.val (.int p1), .val (.int p2), .val (.int p3), .val (.int (1 : Int32)), .val (.int (0 : Int32)), .val (.ref b1), .val (.ref b6), .unset, .unset, .unset, .unset] [(.int ((p3 &&& (255 : Int32)).toUInt32.toUInt16.toUInt32.toInt32))])) t
      exact st14 t k)
  obtain ⟨T17, hp17, X17, e17, E17, A17, D17, -, st17⟩ := newO X14 hx hZ hown (hw _ (List.mem_of_getElem? (i := 44) rfl)) (hw _ (List.mem_of_getElem? (i := 45) rfl)) (hw _ (List.mem_of_getElem? (i := 46) rfl)) eh14 (g := (mkF m 62 #[.val (.int p1), .val (.int p2), .val (.int p3), .val (.int (1 : Int32)), .val (.int (0 : Int32)), .val (.ref b1), .val (.ref b6), .val (.ref vs), .unset, .unset, .unset] [])) rfl (hb hby at_62) (by decide) (by decide)
  obtain ⟨b17, g17⟩ : ∃ z, z = hh14.size := ⟨_, rfl⟩
  rw [← g17] at A17 D17 st17
  have cf18 := (cf15.keep Kq14 nin0)
  have ne_b1_b17 : b1 ≠ b17 := Nat.ne_of_lt (Nat.lt_of_lt_of_le cf18.lt (Nat.le_of_eq g17.symm))
  have cf19 := (fq11_0.keep Kq14)
  have ne_b6_b17 : b6 ≠ b17 := Nat.ne_of_lt (Nat.lt_of_lt_of_le cf19.lt (Nat.le_of_eq g17.symm))
  have ne_vs_b17 : vs ≠ b17 := Nat.ne_of_lt (Nat.lt_of_lt_of_le fq14_0.lt (Nat.le_of_eq g17.symm))
  have g_b17 : n0 ≤ b17 := Nat.le_trans (Nat.le_trans Z0 Kp14.1) (Nat.le_of_eq g17.symm)
  have sz_b17 : h0.size ≤ b17 := Nat.le_trans Kp14.1 (Nat.le_of_eq g17.symm)
  have hk := Nat.le_trans hk E17.1
  have Kp17 := Keep.ext Kp14 E17
  have F17_60 : Fld Z hp17 b17 "com/example/nokkel/nokkel/core/ClientRecord" "owner" "Ljava/lang/String;" .null := D17 (Or.inr (hw _ (List.mem_of_getElem? (i := 60) rfl))) (ty := (.object "java/lang/String")) (by decide)
  have F17_63 : Fld Z hp17 b17 "com/example/nokkel/nokkel/core/ClientRecord" "verifier" "Ljava/lang/String;" .null := D17 (Or.inr (hw _ (List.mem_of_getElem? (i := 63) rfl))) (ty := (.object "java/lang/String")) (by decide)
  have F17_65 : Fld Z hp17 b17 "com/example/nokkel/nokkel/core/ClientRecord" "locksRevoked" "Z" (.int (0 : Int32)) := D17 (Or.inr (hw _ (List.mem_of_getElem? (i := 65) rfl))) (ty := .boolean) (by decide)
  have F17_67 : Fld Z hp17 b17 "com/example/nokkel/nokkel/core/ClientRecord" "graceMissed" "Z" (.int (0 : Int32)) := D17 (Or.inr (hw _ (List.mem_of_getElem? (i := 67) rfl))) (ty := .boolean) (by decide)
  have ch20 : ∀ t, Steps p.tables e below (T17.setTop (mkF m 65 #[.val (.int p1), .val (.int p2), .val (.int p3), .val (.int (1 : Int32)), .val (.int (0 : Int32)), .val (.ref b1), .val (.ref b6), .val (.ref vs), .unset, .unset, .unset] [(.ref b17)])) t → Steps p.tables e below (s₁.setTop (entryFrame m #[(.int p1), (.int p2), (.int p3)] maxLocals)) t := fun t k => ch16 t (by
      show Steps p.tables e below (T14.setTop (mkF m 60 #[.val (.int p1), .val (.int p2), .val (.int p3), .val (.int (1 : Int32)), .val (.int (0 : Int32)), .val (.ref b1), .val (.ref b6), .unset, .unset, .unset, .unset] [(.ref vs)])) t
      refine XS.astore X14.here hx rfl (hb hby at_60) rfl rfl (l' := #[.val (.int p1), .val (.int p2), .val (.int p3), .val (.int (1 : Int32)), .val (.int (0 : Int32)), .val (.ref b1), .val (.ref b6), .val (.ref vs), .unset, .unset, .unset]) rfl ?_
      show Steps p.tables e below (T14.setTop (mkF m 62 #[.val (.int p1), .val (.int p2), .val (.int p3), .val (.int (1 : Int32)), .val (.int (0 : Int32)), .val (.ref b1), .val (.ref b6), .val (.ref vs), .unset, .unset, .unset] [])) t
      exact st17 t k)
  have cf21 := (cf19.ext E17)
  have cf22 := (fq14_0.ext E17)
  obtain ⟨vv23, _, ⟨T23, L23, kk23, nn23⟩, -, X23, hS2, hgr, ⟨Lc23, hQ23, l23, y23, z23⟩, st23⟩ := X17.specialBackS hx (y := (⟨"com/example/nokkel/nokkel/core/ClientRecord", "<init>", "(Ljava/lang/String;Ljava/lang/String;ZZ)V"⟩ : MethodName)) rfl hown (mvT hZ (hw _ (List.mem_of_getElem? (i := 47) rfl))) (mvT hZ (hw _ (List.mem_of_getElem? (i := 48) rfl))) (mvT hZ (hw _ (List.mem_of_getElem? (i := 49) rfl))) (by decide) (backOfS (W := 1) (own_ini_10 l Z a0 hw [] hp17 n0 (Nat.le_trans Z0 Kp17.1) b17 b6 vs A17 F17_60 F17_63 F17_65 F17_67 g_b17 cf21 cf22) hZ (hw _ (List.mem_of_getElem? (i := 49) rfl)) (hw _ (List.mem_of_getElem? (i := 46) rfl)) (by decide) (by decide)) (g := (mkF m 73 #[.val (.int p1), .val (.int p2), .val (.int p3), .val (.int (1 : Int32)), .val (.int (0 : Int32)), .val (.ref b1), .val (.ref b6), .val (.ref vs), .unset, .unset, .unset] [(.int (0 : Int32)), (.int (1 : Int32)), (.ref vs), (.ref b6), (.ref b17), (.ref b17)])) rfl (by rw [hml]; rfl) (Steps.refl _) (a := b17) (argsL := [(.ref b6), (.ref vs), (.int (1 : Int32)), (.int (0 : Int32))]) (rest := [(.ref b17)]) (lenOf own_pd__Ljava_lang_String_Ljava_lang_String_ZZ_V rfl) rfl (by show 2 * 0 + _ ≤ _; exact Nat.le_of_eq rfl) (hb hby at_73) (fun _ _ => ⟨rfl, e17, (by decide : 6 + 4 ≤ _), (by decide : 15 + 60 ≤ _)⟩)
  dsimp only [Pt.U, Pt.locs, Pt.cells, Pt.slots] at X23 l23 y23 z23 st23 hQ23 hS2 hgr
  subst l23 y23 z23
  obtain ⟨X23, hS, hZ, hown⟩ := rebS hS (by rw [e17]; exact hk) X23 hS2 hgr hZ hown
  obtain ⟨hh23, eh23⟩ : ∃ h, T23.heap = h := ⟨_, rfl⟩
  rw [eh23] at hQ23
  rw [eh23] at hS
  have hk : hh23.size ≤ hh23.size := Nat.le_refl _
  obtain ⟨rfl, Nq23, Kq23, fq23_0, fq23_1, fq23_2, fq23_3, fq23_4⟩ := hQ23
  have N23 := Fr.app N14 Nq23
  have Kp23 := Keep.trans Kp17 Kq23 (allS (Or.inr sz_b17) all0)
  have ch24 : ∀ t, Steps p.tables e below (T23.setTop (mkF m 76 #[.val (.int p1), .val (.int p2), .val (.int p3), .val (.int (1 : Int32)), .val (.int (0 : Int32)), .val (.ref b1), .val (.ref b6), .val (.ref vs), .unset, .unset, .unset] [(.ref b17)])) t → Steps p.tables e below (s₁.setTop (entryFrame m #[(.int p1), (.int p2), (.int p3)] maxLocals)) t := fun t k => ch20 t (by
      show Steps p.tables e below (T17.setTop (mkF m 65 #[.val (.int p1), .val (.int p2), .val (.int p3), .val (.int (1 : Int32)), .val (.int (0 : Int32)), .val (.ref b1), .val (.ref b6), .val (.ref vs), .unset, .unset, .unset] [(.ref b17)])) t
      refine XS.dup X17.here hx rfl (hb hby at_65) rfl rfl ?_
      show Steps p.tables e below (T17.setTop (mkF m 66 #[.val (.int p1), .val (.int p2), .val (.int p3), .val (.int (1 : Int32)), .val (.int (0 : Int32)), .val (.ref b1), .val (.ref b6), .val (.ref vs), .unset, .unset, .unset] [(.ref b17), (.ref b17)])) t
      refine XS.aload X17.here hx rfl (hb hby at_66) rfl rfl ?_
      show Steps p.tables e below (T17.setTop (mkF m 68 #[.val (.int p1), .val (.int p2), .val (.int p3), .val (.int (1 : Int32)), .val (.int (0 : Int32)), .val (.ref b1), .val (.ref b6), .val (.ref vs), .unset, .unset, .unset] [(.ref b6), (.ref b17), (.ref b17)])) t
      refine XS.aload X17.here hx rfl (hb hby at_68) rfl rfl ?_
      show Steps p.tables e below (T17.setTop (mkF m 70 #[.val (.int p1), .val (.int p2), .val (.int p3), .val (.int (1 : Int32)), .val (.int (0 : Int32)), .val (.ref b1), .val (.ref b6), .val (.ref vs), .unset, .unset, .unset] [(.ref vs), (.ref b6), (.ref b17), (.ref b17)])) t
      refine XS.iloadN X17.here hx rfl (hb hby at_70) rfl ?_
      show Steps p.tables e below (T17.setTop (mkF m 71 #[.val (.int p1), .val (.int p2), .val (.int p3), .val (.int (1 : Int32)), .val (.int (0 : Int32)), .val (.ref b1), .val (.ref b6), .val (.ref vs), .unset, .unset, .unset] [(.int (1 : Int32)), (.ref vs), (.ref b6), (.ref b17), (.ref b17)])) t
      refine XS.iload X17.here hx rfl (hb hby at_71) rfl ?_
      show Steps p.tables e below (T17.setTop (mkF m 73 #[.val (.int p1), .val (.int p2), .val (.int p3), .val (.int (1 : Int32)), .val (.int (0 : Int32)), .val (.ref b1), .val (.ref b6), .val (.ref vs), .unset, .unset, .unset] [(.int (0 : Int32)), (.int (1 : Int32)), (.ref vs), (.ref b6), (.ref b17), (.ref b17)])) t
      exact st23.trans k)
  have cf25 := (cf21.keep Kq23)
  have cf26 := (cf22.keep Kq23)
  obtain ⟨cq27, kq27, qa27, qb27, qc27⟩ := isOf hZ eh23 fq23_0
  obtain ⟨vv28, _, ⟨T28, L28, kk28, nn28⟩, -, X28, ⟨Lc28, hQ28, l28, y28, z28⟩, st28⟩ := X23.virtualBack hx (y := (⟨"com/example/nokkel/nokkel/core/ClientRecord", "isMarked", "()Z"⟩ : MethodName)) (z := (⟨"com/example/nokkel/nokkel/core/ClientRecord", "isMarked", "()Z"⟩ : MethodName)) hown (mvT hZ (hw _ (List.mem_of_getElem? (i := 68) rfl))) (mvT hZ (hw _ (List.mem_of_getElem? (i := 69) rfl))) (notFace_of_selects (args := #[]) (mvT hZ (hw _ (List.mem_of_getElem? (i := 71) rfl)))) (mvT hZ (hw _ (List.mem_of_getElem? (i := 71) rfl))) (mvT hZ (hw _ (List.mem_of_getElem? (i := 70) rfl))) (by decide) (backOf (W := 0) (own_mark_10 l Z a0 hw [] hh23 n0 (Nat.le_trans Z0 Kp23.1) b17 b6 vs fq23_1 fq23_2 fq23_3 fq23_4 cf25 cf26) hZ (hw _ (List.mem_of_getElem? (i := 72) rfl)) (hw _ (List.mem_of_getElem? (i := 46) rfl)) (by decide) (by decide)) qa27 qc27 (g := (mkF m 104 #[.val (.int p1), .val (.int p2), .val (.int p3), .val (.int (1 : Int32)), .val (.int (0 : Int32)), .val (.ref b1), .val (.ref b6), .val (.ref vs), .val (.ref b17), .val (.int (1 : Int32)), .unset] [(.ref b17)])) rfl (by rw [hml]; rfl) (Steps.refl _) (argsL := []) (rest := []) (lenOf own_pd___Z rfl) rfl (by show 2 * 0 + _ ≤ _; exact Nat.le_of_eq rfl) (hb hby at_104) (fun _ _ => ⟨rfl, eh23, (by decide : 10 + 0 ≤ _), (by decide : 75 + 0 ≤ _)⟩)
  dsimp only [Pt.U, Pt.locs, Pt.cells, Pt.slots] at X28 l28 y28 z28 st28 hQ28
  subst l28 y28 z28
  obtain ⟨rfl, Nq28, e28⟩ := hQ28
  have N28 := Fr.app N23 Nq28
  have ch29 : ∀ t, Steps p.tables e below (T28.setTop (mkF m 107 #[.val (.int p1), .val (.int p2), .val (.int p3), .val (.int (1 : Int32)), .val (.int (0 : Int32)), .val (.ref b1), .val (.ref b6), .val (.ref vs), .val (.ref b17), .val (.int (1 : Int32)), .unset] [(.int (1 : Int32))])) t → Steps p.tables e below (s₁.setTop (entryFrame m #[(.int p1), (.int p2), (.int p3)] maxLocals)) t := fun t k => ch24 t (by
      show Steps p.tables e below (T23.setTop (mkF m 76 #[.val (.int p1), .val (.int p2), .val (.int p3), .val (.int (1 : Int32)), .val (.int (0 : Int32)), .val (.ref b1), .val (.ref b6), .val (.ref vs), .unset, .unset, .unset] [(.ref b17)])) t
      refine XS.astore X23.here hx rfl (hb hby at_76) rfl rfl (l' := #[.val (.int p1), .val (.int p2), .val (.int p3), .val (.int (1 : Int32)), .val (.int (0 : Int32)), .val (.ref b1), .val (.ref b6), .val (.ref vs), .val (.ref b17), .unset, .unset]) rfl ?_
      show Steps p.tables e below (T23.setTop (mkF m 78 #[.val (.int p1), .val (.int p2), .val (.int p3), .val (.int (1 : Int32)), .val (.int (0 : Int32)), .val (.ref b1), .val (.ref b6), .val (.ref vs), .val (.ref b17), .unset, .unset] [])) t
      refine XS.iloadN X23.here hx rfl (hb hby at_78) rfl ?_
      show Steps p.tables e below (T23.setTop (mkF m 79 #[.val (.int p1), .val (.int p2), .val (.int p3), .val (.int (1 : Int32)), .val (.int (0 : Int32)), .val (.ref b1), .val (.ref b6), .val (.ref vs), .val (.ref b17), .unset, .unset] [(.int (1 : Int32))])) t
      refine XS.ifNo X23.here hx rfl (hb hby at_79) rfl ((if0 _ _).trans (feq (by decide : ¬ (1 : Int32) = (0 : Int32))).1) ?_
      show Steps p.tables e below (T23.setTop (mkF m 82 #[.val (.int p1), .val (.int p2), .val (.int p3), .val (.int (1 : Int32)), .val (.int (0 : Int32)), .val (.ref b1), .val (.ref b6), .val (.ref vs), .val (.ref b17), .unset, .unset] [])) t
      refine XS.iconst X23.here hx rfl (hb hby at_82) ?_
      show Steps p.tables e below (T23.setTop (mkF m 83 #[.val (.int p1), .val (.int p2), .val (.int p3), .val (.int (1 : Int32)), .val (.int (0 : Int32)), .val (.ref b1), .val (.ref b6), .val (.ref vs), .val (.ref b17), .unset, .unset] [(.int (1 : Int32))])) t
      refine XS.istore X23.here hx rfl (hb hby at_83) rfl (l' := #[.val (.int p1), .val (.int p2), .val (.int p3), .val (.int (1 : Int32)), .val (.int (0 : Int32)), .val (.ref b1), .val (.ref b6), .val (.ref vs), .val (.ref b17), .val (.int (1 : Int32)), .unset]) rfl ?_
      show Steps p.tables e below (T23.setTop (mkF m 85 #[.val (.int p1), .val (.int p2), .val (.int p3), .val (.int (1 : Int32)), .val (.int (0 : Int32)), .val (.ref b1), .val (.ref b6), .val (.ref vs), .val (.ref b17), .val (.int (1 : Int32)), .unset] [])) t
      refine XS.goto X23.here hx rfl (pc0 := 85) (pc' := 102) rfl (hb hby at_85) (by decide) (by decide) ?_
      show Steps p.tables e below (T23.setTop (mkF m 102 #[.val (.int p1), .val (.int p2), .val (.int p3), .val (.int (1 : Int32)), .val (.int (0 : Int32)), .val (.ref b1), .val (.ref b6), .val (.ref vs), .val (.ref b17), .val (.int (1 : Int32)), .unset] [])) t
      refine XS.aload X23.here hx rfl (hb hby at_102) rfl rfl ?_
      show Steps p.tables e below (T23.setTop (mkF m 104 #[.val (.int p1), .val (.int p2), .val (.int p3), .val (.int (1 : Int32)), .val (.int (0 : Int32)), .val (.ref b1), .val (.ref b6), .val (.ref vs), .val (.ref b17), .val (.int (1 : Int32)), .unset] [(.ref b17)])) t
      exact st28.trans k)
  obtain ⟨cq30, kq30, qa30, qb30, qc30⟩ := isOf hZ e28 fq23_0
  obtain ⟨vv31, _, ⟨T31, L31, kk31, nn31⟩, -, X31, hS2, hgr, ⟨Lc31, hQ31, l31, y31, z31⟩, st31⟩ := X28.virtualBackS hx (y := (⟨"com/example/nokkel/nokkel/core/ClientRecord", "withLocksRevoked", "(Z)Lcom/example/nokkel/nokkel/core/ClientRecord;"⟩ : MethodName)) (z := (⟨"com/example/nokkel/nokkel/core/ClientRecord", "withLocksRevoked", "(Z)Lcom/example/nokkel/nokkel/core/ClientRecord;"⟩ : MethodName)) hown (mvT hZ (hw _ (List.mem_of_getElem? (i := 73) rfl))) (mvT hZ (hw _ (List.mem_of_getElem? (i := 74) rfl))) (notFace_of_selects (args := #[]) (mvT hZ (hw _ (List.mem_of_getElem? (i := 76) rfl)))) (mvT hZ (hw _ (List.mem_of_getElem? (i := 76) rfl))) (mvT hZ (hw _ (List.mem_of_getElem? (i := 75) rfl))) (by decide) (backOfS (W := 0) (own_wlr_10 l Z a0 hw [] hh23 n0 (Nat.le_trans Z0 Kp23.1) b17 b6 vs fq23_1 fq23_2 fq23_3 fq23_4 cf25 cf26) hZ (hw _ (List.mem_of_getElem? (i := 77) rfl)) (hw _ (List.mem_of_getElem? (i := 46) rfl)) (by decide) (by decide)) qa30 qc30 (g := (mkF m 117 #[.val (.int p1), .val (.int p2), .val (.int p3), .val (.int (1 : Int32)), .val (.int (0 : Int32)), .val (.ref b1), .val (.ref b6), .val (.ref vs), .val (.ref b17), .val (.int (1 : Int32)), .unset] [(.int (0 : Int32)), (.ref b17)])) rfl (by rw [hml]; rfl) (Steps.refl _) (argsL := [(.int (0 : Int32))]) (rest := []) (lenOf own_pd__Z_Lcom_example_nokkel_nokkel_core_ClientRecord_ rfl) rfl (by show 2 * 0 + _ ≤ _; exact Nat.le_of_eq rfl) (hb hby at_117) (fun _ _ => ⟨rfl, e28, (by decide : 10 + 5 ≤ _), (by decide : 75 + 64 ≤ _)⟩)
  dsimp only [Pt.U, Pt.locs, Pt.cells, Pt.slots] at X31 l31 y31 z31 st31 hQ31 hS2 hgr
  subst l31 y31 z31
  obtain ⟨X31, hS, hZ, hown⟩ := rebS hS (by rw [e28]; exact hk) X31 hS2 hgr hZ hown
  obtain ⟨hh31, eh31⟩ : ∃ h, T31.heap = h := ⟨_, rfl⟩
  rw [eh31] at hQ31
  rw [eh31] at hS
  have hk : hh31.size ≤ hh31.size := Nat.le_refl _
  obtain ⟨ra, rfl, zq31, Nq31, Kq31, fq31_0, fq31_1, fq31_2, fq31_3, fq31_4⟩ := hQ31
  have N31 := Fr.app N28 Nq31
  have cf32 := ((cf18.ext E17).keep Kq23 (ninS ne_b1_b17 nin0))
  have ne_b1_ra : b1 ≠ ra := Nat.ne_of_lt (Nat.lt_of_lt_of_le cf32.lt zq31)
  have ne_b6_ra : b6 ≠ ra := Nat.ne_of_lt (Nat.lt_of_lt_of_le cf25.lt zq31)
  have ne_vs_ra : vs ≠ ra := Nat.ne_of_lt (Nat.lt_of_lt_of_le cf26.lt zq31)
  have ne_b17_ra : b17 ≠ ra := Nat.ne_of_lt (Nat.lt_of_lt_of_le fq23_0.lt zq31)
  have g_ra : n0 ≤ ra := Nat.le_trans (Nat.le_trans Z0 Kp23.1) zq31
  have sz_ra : h0.size ≤ ra := Nat.le_trans Kp23.1 zq31
  have Kp31 := Keep.trans Kp23 Kq31 all0
  have ch33 : ∀ t, Steps p.tables e below (T31.setTop (mkF m 120 #[.val (.int p1), .val (.int p2), .val (.int p3), .val (.int (1 : Int32)), .val (.int (0 : Int32)), .val (.ref b1), .val (.ref b6), .val (.ref vs), .val (.ref b17), .val (.int (1 : Int32)), .unset] [(.ref ra)])) t → Steps p.tables e below (s₁.setTop (entryFrame m #[(.int p1), (.int p2), (.int p3)] maxLocals)) t := fun t k => ch29 t (by
      show Steps p.tables e below (T28.setTop (mkF m 107 #[.val (.int p1), .val (.int p2), .val (.int p3), .val (.int (1 : Int32)), .val (.int (0 : Int32)), .val (.ref b1), .val (.ref b6), .val (.ref vs), .val (.ref b17), .val (.int (1 : Int32)), .unset] [(.int (1 : Int32))])) t
      refine XS.iload X28.here hx rfl (hb hby at_107) rfl ?_
      show Steps p.tables e below (T28.setTop (mkF m 109 #[.val (.int p1), .val (.int p2), .val (.int p3), .val (.int (1 : Int32)), .val (.int (0 : Int32)), .val (.ref b1), .val (.ref b6), .val (.ref vs), .val (.ref b17), .val (.int (1 : Int32)), .unset] [(.int (1 : Int32)), (.int (1 : Int32))])) t
      refine XS.icmpYes X28.here hx rfl (pc0 := 109) (pc' := 114) rfl (hb hby at_109) rfl (teq (by decide : (1 : Int32) = (1 : Int32))).1 (by decide) (by decide) ?_
      show Steps p.tables e below (T28.setTop (mkF m 114 #[.val (.int p1), .val (.int p2), .val (.int p3), .val (.int (1 : Int32)), .val (.int (0 : Int32)), .val (.ref b1), .val (.ref b6), .val (.ref vs), .val (.ref b17), .val (.int (1 : Int32)), .unset] [])) t
      refine XS.aload X28.here hx rfl (hb hby at_114) rfl rfl ?_
      show Steps p.tables e below (T28.setTop (mkF m 116 #[.val (.int p1), .val (.int p2), .val (.int p3), .val (.int (1 : Int32)), .val (.int (0 : Int32)), .val (.ref b1), .val (.ref b6), .val (.ref vs), .val (.ref b17), .val (.int (1 : Int32)), .unset] [(.ref b17)])) t
      refine XS.iconst X28.here hx rfl (hb hby at_116) ?_
      show Steps p.tables e below (T28.setTop (mkF m 117 #[.val (.int p1), .val (.int p2), .val (.int p3), .val (.int (1 : Int32)), .val (.int (0 : Int32)), .val (.ref b1), .val (.ref b6), .val (.ref vs), .val (.ref b17), .val (.int (1 : Int32)), .unset] [(.int (0 : Int32)), (.ref b17)])) t
      exact st31.trans k)
  have cf34 := (cf25.keep Kq31)
  have cf35 := (cf26.keep Kq31)
  obtain ⟨cq36, kq36, qa36, qb36, qc36⟩ := isOf hZ eh31 fq31_0
  obtain ⟨vv37, _, ⟨T37, L37, kk37, nn37⟩, -, X37, hS2, hgr, ⟨Lc37, hQ37, l37, y37, z37⟩, st37⟩ := X31.virtualBackS hx (y := (⟨"com/example/nokkel/nokkel/core/ClientRecord", "withGraceMissed", "(Z)Lcom/example/nokkel/nokkel/core/ClientRecord;"⟩ : MethodName)) (z := (⟨"com/example/nokkel/nokkel/core/ClientRecord", "withGraceMissed", "(Z)Lcom/example/nokkel/nokkel/core/ClientRecord;"⟩ : MethodName)) hown (mvT hZ (hw _ (List.mem_of_getElem? (i := 80) rfl))) (mvT hZ (hw _ (List.mem_of_getElem? (i := 81) rfl))) (notFace_of_selects (args := #[]) (mvT hZ (hw _ (List.mem_of_getElem? (i := 83) rfl)))) (mvT hZ (hw _ (List.mem_of_getElem? (i := 83) rfl))) (mvT hZ (hw _ (List.mem_of_getElem? (i := 82) rfl))) (by decide) (backOfS (W := 0) (own_wgm_00 l Z a0 hw [] hh31 n0 (Nat.le_trans Z0 Kp31.1) ra b6 vs fq31_1 fq31_2 fq31_3 fq31_4 cf34 cf35) hZ (hw _ (List.mem_of_getElem? (i := 84) rfl)) (hw _ (List.mem_of_getElem? (i := 46) rfl)) (by decide) (by decide)) qa36 qc36 (g := (mkF m 121 #[.val (.int p1), .val (.int p2), .val (.int p3), .val (.int (1 : Int32)), .val (.int (0 : Int32)), .val (.ref b1), .val (.ref b6), .val (.ref vs), .val (.ref b17), .val (.int (1 : Int32)), .unset] [(.int (0 : Int32)), (.ref ra)])) rfl (by rw [hml]; rfl) (Steps.refl _) (argsL := [(.int (0 : Int32))]) (rest := []) (lenOf own_pd__Z_Lcom_example_nokkel_nokkel_core_ClientRecord_ rfl) rfl (by show 2 * 0 + _ ≤ _; exact Nat.le_of_eq rfl) (hb hby at_121) (fun _ _ => ⟨rfl, eh31, (by decide : 15 + 5 ≤ _), (by decide : 139 + 64 ≤ _)⟩)
  dsimp only [Pt.U, Pt.locs, Pt.cells, Pt.slots] at X37 l37 y37 z37 st37 hQ37 hS2 hgr
  subst l37 y37 z37
  obtain ⟨X37, hS, hZ, hown⟩ := rebS hS (by rw [eh31]; exact hk) X37 hS2 hgr hZ hown
  obtain ⟨hh37, eh37⟩ : ∃ h, T37.heap = h := ⟨_, rfl⟩
  rw [eh37] at hQ37
  rw [eh37] at hS
  have hk : hh37.size ≤ hh37.size := Nat.le_refl _
  obtain ⟨rz, rfl, zq37, Nq37, Kq37, fq37_0, fq37_1, fq37_2, fq37_3, fq37_4⟩ := hQ37
  have N37 := Fr.app N31 Nq37
  have cf38 := (cf32.keep Kq31 nin0)
  have ne_b1_rz : b1 ≠ rz := Nat.ne_of_lt (Nat.lt_of_lt_of_le cf38.lt zq37)
  have ne_b6_rz : b6 ≠ rz := Nat.ne_of_lt (Nat.lt_of_lt_of_le cf34.lt zq37)
  have ne_vs_rz : vs ≠ rz := Nat.ne_of_lt (Nat.lt_of_lt_of_le cf35.lt zq37)
  have cf39 := (fq23_0.keep Kq31)
  have ne_b17_rz : b17 ≠ rz := Nat.ne_of_lt (Nat.lt_of_lt_of_le cf39.lt zq37)
  have ne_ra_rz : ra ≠ rz := Nat.ne_of_lt (Nat.lt_of_lt_of_le fq31_0.lt zq37)
  have g_rz : n0 ≤ rz := Nat.le_trans (Nat.le_trans Z0 Kp31.1) zq37
  have sz_rz : h0.size ≤ rz := Nat.le_trans Kp31.1 zq37
  have Kp37 := Keep.trans Kp31 Kq37 all0
  have ch40 : ∀ t, Steps p.tables e below (T37.setTop (mkF m 124 #[.val (.int p1), .val (.int p2), .val (.int p3), .val (.int (1 : Int32)), .val (.int (0 : Int32)), .val (.ref b1), .val (.ref b6), .val (.ref vs), .val (.ref b17), .val (.int (1 : Int32)), .unset] [(.ref rz)])) t → Steps p.tables e below (s₁.setTop (entryFrame m #[(.int p1), (.int p2), (.int p3)] maxLocals)) t := fun t k => ch33 t (by
      show Steps p.tables e below (T31.setTop (mkF m 120 #[.val (.int p1), .val (.int p2), .val (.int p3), .val (.int (1 : Int32)), .val (.int (0 : Int32)), .val (.ref b1), .val (.ref b6), .val (.ref vs), .val (.ref b17), .val (.int (1 : Int32)), .unset] [(.ref ra)])) t
      refine XS.iconst X31.here hx rfl (hb hby at_120) ?_
      show Steps p.tables e below (T31.setTop (mkF m 121 #[.val (.int p1), .val (.int p2), .val (.int p3), .val (.int (1 : Int32)), .val (.int (0 : Int32)), .val (.ref b1), .val (.ref b6), .val (.ref vs), .val (.ref b17), .val (.int (1 : Int32)), .unset] [(.int (0 : Int32)), (.ref ra)])) t
      exact st37.trans k)
  have cf41 := (cf34.keep Kq37)
  have cf42 := (cf35.keep Kq37)
  obtain ⟨cq43, kq43, qa43, qb43, qc43⟩ := isOf hZ eh37 fq37_0
  obtain ⟨vv44, _, ⟨T44, L44, kk44, nn44⟩, -, X44, ⟨Lc44, hQ44, l44, y44, z44⟩, st44⟩ := X37.virtualBack hx (y := (⟨"com/example/nokkel/nokkel/core/ClientRecord", "isMarked", "()Z"⟩ : MethodName)) (z := (⟨"com/example/nokkel/nokkel/core/ClientRecord", "isMarked", "()Z"⟩ : MethodName)) hown (mvT hZ (hw _ (List.mem_of_getElem? (i := 68) rfl))) (mvT hZ (hw _ (List.mem_of_getElem? (i := 69) rfl))) (notFace_of_selects (args := #[]) (mvT hZ (hw _ (List.mem_of_getElem? (i := 71) rfl)))) (mvT hZ (hw _ (List.mem_of_getElem? (i := 71) rfl))) (mvT hZ (hw _ (List.mem_of_getElem? (i := 70) rfl))) (by decide) (backOf (W := 0) (own_mark_00 l Z a0 hw [] hh37 n0 (Nat.le_trans Z0 Kp37.1) rz b6 vs fq37_1 fq37_2 fq37_3 fq37_4 cf41 cf42) hZ (hw _ (List.mem_of_getElem? (i := 72) rfl)) (hw _ (List.mem_of_getElem? (i := 46) rfl)) (by decide) (by decide)) qa43 qc43 (g := (mkF m 128 #[.val (.int p1), .val (.int p2), .val (.int p3), .val (.int (1 : Int32)), .val (.int (0 : Int32)), .val (.ref b1), .val (.ref b6), .val (.ref vs), .val (.ref b17), .val (.int (1 : Int32)), .val (.ref rz)] [(.ref rz)])) rfl (by rw [hml]; rfl) (Steps.refl _) (argsL := []) (rest := []) (lenOf own_pd___Z rfl) rfl (by show 2 * 0 + _ ≤ _; exact Nat.le_of_eq rfl) (hb hby at_128) (fun _ _ => ⟨rfl, eh37, (by decide : 20 + 0 ≤ _), (by decide : 203 + 0 ≤ _)⟩)
  dsimp only [Pt.U, Pt.locs, Pt.cells, Pt.slots] at X44 l44 y44 z44 st44 hQ44
  subst l44 y44 z44
  obtain ⟨rfl, Nq44, e44⟩ := hQ44
  have N44 := Fr.app N37 Nq44
  have ch45 : ∀ t, Steps p.tables e below (T44.setTop (mkF m 131 #[.val (.int p1), .val (.int p2), .val (.int p3), .val (.int (1 : Int32)), .val (.int (0 : Int32)), .val (.ref b1), .val (.ref b6), .val (.ref vs), .val (.ref b17), .val (.int (1 : Int32)), .val (.ref rz)] [(.int (0 : Int32))])) t → Steps p.tables e below (s₁.setTop (entryFrame m #[(.int p1), (.int p2), (.int p3)] maxLocals)) t := fun t k => ch40 t (by
      show Steps p.tables e below (T37.setTop (mkF m 124 #[.val (.int p1), .val (.int p2), .val (.int p3), .val (.int (1 : Int32)), .val (.int (0 : Int32)), .val (.ref b1), .val (.ref b6), .val (.ref vs), .val (.ref b17), .val (.int (1 : Int32)), .unset] [(.ref rz)])) t
      refine XS.astore X37.here hx rfl (hb hby at_124) rfl rfl (l' := #[.val (.int p1), .val (.int p2), .val (.int p3), .val (.int (1 : Int32)), .val (.int (0 : Int32)), .val (.ref b1), .val (.ref b6), .val (.ref vs), .val (.ref b17), .val (.int (1 : Int32)), .val (.ref rz)]) rfl ?_
      show Steps p.tables e below (T37.setTop (mkF m 126 #[.val (.int p1), .val (.int p2), .val (.int p3), .val (.int (1 : Int32)), .val (.int (0 : Int32)), .val (.ref b1), .val (.ref b6), .val (.ref vs), .val (.ref b17), .val (.int (1 : Int32)), .val (.ref rz)] [])) t
      refine XS.aload X37.here hx rfl (hb hby at_126) rfl rfl ?_
      show Steps p.tables e below (T37.setTop (mkF m 128 #[.val (.int p1), .val (.int p2), .val (.int p3), .val (.int (1 : Int32)), .val (.int (0 : Int32)), .val (.ref b1), .val (.ref b6), .val (.ref vs), .val (.ref b17), .val (.int (1 : Int32)), .val (.ref rz)] [(.ref rz)])) t
      exact st44.trans k)
  have ch46 : ∀ t, Steps p.tables e below (T44.setTop (mkF m 137 #[.val (.int p1), .val (.int p2), .val (.int p3), .val (.int (1 : Int32)), .val (.int (0 : Int32)), .val (.ref b1), .val (.ref b6), .val (.ref vs), .val (.ref b17), .val (.int (1 : Int32)), .val (.ref rz)] [(.int (1 : Int32))])) t → Steps p.tables e below (s₁.setTop (entryFrame m #[(.int p1), (.int p2), (.int p3)] maxLocals)) t := fun t k => ch45 t (by
      show Steps p.tables e below (T44.setTop (mkF m 131 #[.val (.int p1), .val (.int p2), .val (.int p3), .val (.int (1 : Int32)), .val (.int (0 : Int32)), .val (.ref b1), .val (.ref b6), .val (.ref vs), .val (.ref b17), .val (.int (1 : Int32)), .val (.ref rz)] [(.int (0 : Int32))])) t
      refine XS.ifYes X44.here hx rfl (pc0 := 131) (pc' := 136) rfl (hb hby at_131) rfl ((if0 _ _).trans (teq (by decide : (0 : Int32) = (0 : Int32))).1) (by decide) (by decide) ?_
      show Steps p.tables e below (T44.setTop (mkF m 136 #[.val (.int p1), .val (.int p2), .val (.int p3), .val (.int (1 : Int32)), .val (.int (0 : Int32)), .val (.ref b1), .val (.ref b6), .val (.ref vs), .val (.ref b17), .val (.int (1 : Int32)), .val (.ref rz)] [])) t
      refine XS.iconst X44.here hx rfl (hb hby at_136) ?_
      exact k)
  obtain ⟨fs, hr, hrun, hended, hend⟩ := X44.leaveW hS (by rw [e44]; exact hk) (v := some (.int (1 : Int32))) (fun h => by rw [Bd.returns] at h; cases h)
  refine ⟨_, _, ch46 _ ?_, hrun, hended, _, _, rfl, ?_, hend.1, hend.2.1, hend.2.2.1, hend.2.2.2.mono (by decide) (by decide)⟩
  · show Steps p.tables e below (T44.setTop (mkF m 137 #[.val (.int p1), .val (.int p2), .val (.int p3), .val (.int (1 : Int32)), .val (.int (0 : Int32)), .val (.ref b1), .val (.ref b6), .val (.ref vs), .val (.ref b17), .val (.int (1 : Int32)), .val (.ref rz)] [(.int (1 : Int32))])) _
    exact retN X44 hx (t := .boolean) Bd.returns (by simp) (hb hby at_137) hr
  · show QN (some (.int (1 : Int32))) n0 _ T44.heap _
    rw [e44]
    exact ⟨rfl, N44⟩
theorem own_ef_own_law_11 (m : MethodId) {x0 : Int32} {x1 : Int32} {x2 : Int32} : entryFrame m #[(.int x0), (.int x1), (.int x2)] maxLocals = mkF m 0 #[.val (.int x0), .val (.int x1), .val (.int x2), .unset, .unset, .unset, .unset, .unset, .unset, .unset, .unset] [] := by first | (simp [entryFrame, mkF, argsToLocals, Value.category, maxLocals]; done) | rfl
set_option maxRecDepth 65536 in
set_option maxHeartbeats 40000000 in
theorem own_law_11 (l : Launch) (Z : State) (a0 : Array Value) (hw : ∀ d ∈ tables_1, d.before a0 Z = true) (ws : List Jvm.Cond) (h0 : Heap) (n0 : Nat) (Z0 : n0 ≤ h0.size) (p1 p2 p3 : Int32) (s0 : ¬ (p1 &&& (1 : Int32)) = (0 : Int32)) (s1 : ¬ (p1 &&& (2 : Int32)) = (0 : Int32)) (zC : Int32) (S_CS : Sta Z h0 "java/lang/String" "COMPACT_STRINGS" "Z" (.int zC)) (P5 : ¬ (zC = (0 : Int32))) :
    MetFree l x (head1 (Jvm.Cond.code x code maxLocals ret :: ws) room_1) (fun a U => a = #[(.int p1), (.int p2), (.int p3)] ∧ Z.Warmed39 U.vm ∧ U.heap = h0) (fun _ _ _ _ _ => True) (fun _ U o U' => ∃ v L, o = .returned v ∧ QN (some (.int (1 : Int32))) n0 v U'.heap L ∧ ReturnedEndW U o U' L room_1.cells room_1.slots) := by
  refine MetFree.of_bodySF (plainFor_of_name own_pn_com_example_nokkel_nokkel_core_ClientRecordIsMarkedPinLaw) hisR ?_
  intro p e s m args below meth c s₁ Bd hml0 hP hK
  obtain ⟨rfl, hZ, hh⟩ := hP
  have hx := Bd.exec
  have hby := Bd.bytes
  have hml : c.maxLocals = 11 := hml0
  have hown : s.vm.findClass "com/example/nokkel/nokkel/core/ClientRecordIsMarkedPinLaw" = some m.cls := findClass_of_methodNamed Bd.named
  have hnm := (name_of_methodNamed Bd.named Bd.method).1
  have X0 : Stand p l e room_1 (s.setVm s.vm) m #[(.int p1), (.int p2), (.int p3)] below meth c s₁ [] 0 0 := Stand.of_body Bd
  have hZ : Z.Warmed39 (s.setVm s.vm).vm := hZ
  have hown : (s.setVm s.vm).vm.findClass "com/example/nokkel/nokkel/core/ClientRecordIsMarkedPinLaw" = some m.cls := hown
  have hS : s.Since s.vm 0 := (State.WarmedH.refl s).since 0
  have hk : 0 ≤ h0.size := Nat.zero_le _
  have e0 : s₁.heap = h0 := by rw [← hh, Bd.state]; rfl
  have N0 := Fr.nil n0
  have pre0 : ∀ t, Steps p.tables e below (s₁.setTop (mkF m 0 #[.val (.int p1), .val (.int p2), .val (.int p3), .unset, .unset, .unset, .unset, .unset, .unset, .unset, .unset] [])) t → Steps p.tables e below (s₁.setTop (entryFrame m #[(.int p1), (.int p2), (.int p3)] maxLocals)) t := fun t k => castTop (own_ef_own_law_11 m) k
  obtain ⟨T1, hp1, k1, X1, e1, E1, A1, st1⟩ := newP X0 hx hZ (hw _ (List.mem_of_getElem? (i := 0) rfl)) e0 (g := (mkF m 26 #[.val (.int p1), .val (.int p2), .val (.int p3), .val (.int (1 : Int32)), .val (.int (1 : Int32)), .unset, .unset, .unset, .unset, .unset, .unset] [(.int (1 : Int32))])) rfl (hb hby at_26) rfl (by decide) (cap := 1) (by decide) (by decide) (by decide) (by decide)
  obtain ⟨b1, g1⟩ : ∃ z, z = h0.size := ⟨_, rfl⟩
  rw [← g1] at A1 st1
  have g_b1 : n0 ≤ b1 := Nat.le_trans (Nat.le_trans Z0 (Keep.refl h0 []).1) (Nat.le_of_eq g1.symm)
  have sz_b1 : h0.size ≤ b1 := Nat.le_trans (Keep.refl h0 []).1 (Nat.le_of_eq g1.symm)
  have hk := Nat.le_trans hk E1.1
  have Kp1 := Keep.ext (Keep.refl h0 []) E1
  have V1 : Arv Z hp1 b1 k1 .char (1 : Int32) [(.int (0 : Int32))] (.int (0 : Int32)) := (Arv.new A1 (by decide)).pad (pad_rep [] (.int (0 : Int32)) 1)
  have ch2 : ∀ t, Steps p.tables e below (T1.setTop (mkF m 28 #[.val (.int p1), .val (.int p2), .val (.int p3), .val (.int (1 : Int32)), .val (.int (1 : Int32)), .unset, .unset, .unset, .unset, .unset, .unset] [(.ref b1)])) t → Steps p.tables e below (s₁.setTop (entryFrame m #[(.int p1), (.int p2), (.int p3)] maxLocals)) t := fun t k => pre0 t (by
      show Steps p.tables e below (s₁.setTop (mkF m 0 #[.val (.int p1), .val (.int p2), .val (.int p3), .unset, .unset, .unset, .unset, .unset, .unset, .unset, .unset] [])) t
      refine XS.iloadN X0.here hx rfl (hb hby at_0) rfl ?_
      show Steps p.tables e below (s₁.setTop (mkF m 1 #[.val (.int p1), .val (.int p2), .val (.int p3), .unset, .unset, .unset, .unset, .unset, .unset, .unset, .unset] [(.int p1)])) t
      refine XS.iconst X0.here hx rfl (hb hby at_1) ?_
      show Steps p.tables e below (s₁.setTop (mkF m 2 #[.val (.int p1), .val (.int p2), .val (.int p3), .unset, .unset, .unset, .unset, .unset, .unset, .unset, .unset] [(.int (1 : Int32)), (.int p1)])) t
      refine XS.iand X0.here hx rfl (hb hby at_2) rfl ?_
      show Steps p.tables e below (s₁.setTop (mkF m 3 #[.val (.int p1), .val (.int p2), .val (.int p3), .unset, .unset, .unset, .unset, .unset, .unset, .unset, .unset] [(.int (p1 &&& (1 : Int32)))])) t
      refine XS.ifNo X0.here hx rfl (hb hby at_3) rfl ((if0 _ _).trans (feq s0).1) ?_
      show Steps p.tables e below (s₁.setTop (mkF m 6 #[.val (.int p1), .val (.int p2), .val (.int p3), .unset, .unset, .unset, .unset, .unset, .unset, .unset, .unset] [])) t
      refine XS.iconst X0.here hx rfl (hb hby at_6) ?_
      show Steps p.tables e below (s₁.setTop (mkF m 7 #[.val (.int p1), .val (.int p2), .val (.int p3), .unset, .unset, .unset, .unset, .unset, .unset, .unset, .unset] [(.int (1 : Int32))])) t
      refine XS.goto X0.here hx rfl (pc0 := 7) (pc' := 11) rfl (hb hby at_7) (by decide) (by decide) ?_
      show Steps p.tables e below (s₁.setTop (mkF m 11 #[.val (.int p1), .val (.int p2), .val (.int p3), .unset, .unset, .unset, .unset, .unset, .unset, .unset, .unset] [(.int (1 : Int32))])) t
      refine XS.istoreN X0.here hx rfl (hb hby at_11) rfl (l' := #[.val (.int p1), .val (.int p2), .val (.int p3), .val (.int (1 : Int32)), .unset, .unset, .unset, .unset, .unset, .unset, .unset]) rfl ?_
      show Steps p.tables e below (s₁.setTop (mkF m 12 #[.val (.int p1), .val (.int p2), .val (.int p3), .val (.int (1 : Int32)), .unset, .unset, .unset, .unset, .unset, .unset, .unset] [])) t
      refine XS.iloadN X0.here hx rfl (hb hby at_12) rfl ?_
      show Steps p.tables e below (s₁.setTop (mkF m 13 #[.val (.int p1), .val (.int p2), .val (.int p3), .val (.int (1 : Int32)), .unset, .unset, .unset, .unset, .unset, .unset, .unset] [(.int p1)])) t
      refine XS.iconst X0.here hx rfl (hb hby at_13) ?_
      show Steps p.tables e below (s₁.setTop (mkF m 14 #[.val (.int p1), .val (.int p2), .val (.int p3), .val (.int (1 : Int32)), .unset, .unset, .unset, .unset, .unset, .unset, .unset] [(.int (2 : Int32)), (.int p1)])) t
      refine XS.iand X0.here hx rfl (hb hby at_14) rfl ?_
      show Steps p.tables e below (s₁.setTop (mkF m 15 #[.val (.int p1), .val (.int p2), .val (.int p3), .val (.int (1 : Int32)), .unset, .unset, .unset, .unset, .unset, .unset, .unset] [(.int (p1 &&& (2 : Int32)))])) t
      refine XS.ifNo X0.here hx rfl (hb hby at_15) rfl ((if0 _ _).trans (feq s1).1) ?_
      show Steps p.tables e below (s₁.setTop (mkF m 18 #[.val (.int p1), .val (.int p2), .val (.int p3), .val (.int (1 : Int32)), .unset, .unset, .unset, .unset, .unset, .unset, .unset] [])) t
      refine XS.iconst X0.here hx rfl (hb hby at_18) ?_
      show Steps p.tables e below (s₁.setTop (mkF m 19 #[.val (.int p1), .val (.int p2), .val (.int p3), .val (.int (1 : Int32)), .unset, .unset, .unset, .unset, .unset, .unset, .unset] [(.int (1 : Int32))])) t
      refine XS.goto X0.here hx rfl (pc0 := 19) (pc' := 23) rfl (hb hby at_19) (by decide) (by decide) ?_
      show Steps p.tables e below (s₁.setTop (mkF m 23 #[.val (.int p1), .val (.int p2), .val (.int p3), .val (.int (1 : Int32)), .unset, .unset, .unset, .unset, .unset, .unset, .unset] [(.int (1 : Int32))])) t
      refine XS.istore X0.here hx rfl (hb hby at_23) rfl (l' := #[.val (.int p1), .val (.int p2), .val (.int p3), .val (.int (1 : Int32)), .val (.int (1 : Int32)), .unset, .unset, .unset, .unset, .unset, .unset]) rfl ?_
      show Steps p.tables e below (s₁.setTop (mkF m 25 #[.val (.int p1), .val (.int p2), .val (.int p3), .val (.int (1 : Int32)), .val (.int (1 : Int32)), .unset, .unset, .unset, .unset, .unset, .unset] [])) t
      refine XS.iconst X0.here hx rfl (hb hby at_25) ?_
      show Steps p.tables e below (s₁.setTop (mkF m 26 #[.val (.int p1), .val (.int p2), .val (.int p3), .val (.int (1 : Int32)), .val (.int (1 : Int32)), .unset, .unset, .unset, .unset, .unset, .unset] [(.int (1 : Int32))])) t
      exact st1 t k)
  obtain ⟨cl3, Ar3, qq3, Sz3, Ng3, Ha3, Ga3⟩ := id V1
  have hin3 : ¬ ((0 : Int32) < 0 ∨ cl3.slots.size ≤ ((0 : Int32)).toNatClampNeg) := inb_of Sz3 (by decide)
  obtain ⟨T4, hp4, X4, e4, W4, st4⟩ := stC X1 hx hZ e1 Ar3 (j := (0 : Int32)) hin3 (g := (mkF m 39 #[.val (.int p1), .val (.int p2), .val (.int p3), .val (.int (1 : Int32)), .val (.int (1 : Int32)), .val (.ref b1), .unset, .unset, .unset, .unset, .unset] [(.int ((p2 &&& (255 : Int32)).toUInt32.toUInt16.toUInt32.toInt32)), (.int (0 : Int32)), (.ref b1)])) rfl rfl (hb hby at_39)
  have ch5 : ∀ t, Steps p.tables e below (T4.setTop (mkF m 40 #[.val (.int p1), .val (.int p2), .val (.int p3), .val (.int (1 : Int32)), .val (.int (1 : Int32)), .val (.ref b1), .unset, .unset, .unset, .unset, .unset] [])) t → Steps p.tables e below (s₁.setTop (entryFrame m #[(.int p1), (.int p2), (.int p3)] maxLocals)) t := fun t k => ch2 t (by
      show Steps p.tables e below (T1.setTop (mkF m 28 #[.val (.int p1), .val (.int p2), .val (.int p3), .val (.int (1 : Int32)), .val (.int (1 : Int32)), .unset, .unset, .unset, .unset, .unset, .unset] [(.ref b1)])) t
      refine XS.astore X1.here hx rfl (hb hby at_28) rfl rfl (l' := #[.val (.int p1), .val (.int p2), .val (.int p3), .val (.int (1 : Int32)), .val (.int (1 : Int32)), .val (.ref b1), .unset, .unset, .unset, .unset, .unset]) rfl ?_
      show Steps p.tables e below (T1.setTop (mkF m 30 #[.val (.int p1), .val (.int p2), .val (.int p3), .val (.int (1 : Int32)), .val (.int (1 : Int32)), .val (.ref b1), .unset, .unset, .unset, .unset, .unset] [])) t
      refine XS.aload X1.here hx rfl (hb hby at_30) rfl rfl ?_
      show Steps p.tables e below (T1.setTop (mkF m 32 #[.val (.int p1), .val (.int p2), .val (.int p3), .val (.int (1 : Int32)), .val (.int (1 : Int32)), .val (.ref b1), .unset, .unset, .unset, .unset, .unset] [(.ref b1)])) t
      refine XS.iconst X1.here hx rfl (hb hby at_32) ?_
      show Steps p.tables e below (T1.setTop (mkF m 33 #[.val (.int p1), .val (.int p2), .val (.int p3), .val (.int (1 : Int32)), .val (.int (1 : Int32)), .val (.ref b1), .unset, .unset, .unset, .unset, .unset] [(.int (0 : Int32)), (.ref b1)])) t
      refine XS.iloadN X1.here hx rfl (hb hby at_33) rfl ?_
      show Steps p.tables e below (T1.setTop (mkF m 34 #[.val (.int p1), .val (.int p2), .val (.int p3), .val (.int (1 : Int32)), .val (.int (1 : Int32)), .val (.ref b1), .unset, .unset, .unset, .unset, .unset] [(.int p2), (.int (0 : Int32)), (.ref b1)])) t
      refine XS.sipush X1.here hx rfl (hb hby at_34) ?_
      show Steps p.tables e below (T1.setTop (mkF m 37 #[.val (.int p1), .val (.int p2), .val (.int p3), .val (.int (1 : Int32)), .val (.int (1 : Int32)), .val (.ref b1), .unset, .unset, .unset, .unset, .unset] [(.int (255 : Int32)), (.int p2), (.int (0 : Int32)), (.ref b1)])) t
      refine XS.iand X1.here hx rfl (hb hby at_37) rfl ?_
      show Steps p.tables e below (T1.setTop (mkF m 38 #[.val (.int p1), .val (.int p2), .val (.int p3), .val (.int (1 : Int32)), .val (.int (1 : Int32)), .val (.ref b1), .unset, .unset, .unset, .unset, .unset] [(.int (p2 &&& (255 : Int32))), (.int (0 : Int32)), (.ref b1)])) t
      refine XS.i2c X1.here hx rfl (hb hby at_38) rfl ?_
      show Steps p.tables e below (T1.setTop (mkF m 39 #[.val (.int p1), .val (.int p2), .val (.int p3), .val (.int (1 : Int32)), .val (.int (1 : Int32)), .val (.ref b1), .unset, .unset, .unset, .unset, .unset] [(.int ((p2 &&& (255 : Int32)).toUInt32.toUInt16.toUInt32.toInt32)), (.int (0 : Int32)), (.ref b1)])) t
      exact st4 t k)
  have V4 : Arv Z hp4 b1 k1 .char (1 : Int32) [(.int (nar .char ((p2 &&& (255 : Int32)).toUInt32.toUInt16.toUInt32.toInt32)))] (.int (0 : Int32)) := Arv.set Ar3 qq3 Sz3 Ng3 Ha3 Ga3 (fits_nar_char _) W4 0 rfl (Nat.le_of_ble_eq_true rfl)
  have hk := Nat.le_trans hk (Keep.of_wr W4).1
  have N4 := Fr.snoc X4 N0 g_b1
  have Kp4 := Keep.wr Kp1 W4 (Or.inr sz_b1)
  obtain ⟨T6, hp6, X6, e6, E6, A6, D6, -, st6⟩ := newO X4 hx hZ hown (hw _ (List.mem_of_getElem? (i := 1) rfl)) (hw _ (List.mem_of_getElem? (i := 2) rfl)) (hw _ (List.mem_of_getElem? (i := 3) rfl)) e4 (g := (mkF m 40 #[.val (.int p1), .val (.int p2), .val (.int p3), .val (.int (1 : Int32)), .val (.int (1 : Int32)), .val (.ref b1), .unset, .unset, .unset, .unset, .unset] [])) rfl (hb hby at_40) (by decide) (by decide)
  obtain ⟨b6, g6⟩ : ∃ z, z = hp4.size := ⟨_, rfl⟩
  rw [← g6] at A6 D6 st6
  have ne_b1_b6 : b1 ≠ b6 := Nat.ne_of_lt (Nat.lt_of_lt_of_le V4.lt (Nat.le_of_eq g6.symm))
  have g_b6 : n0 ≤ b6 := Nat.le_trans (Nat.le_trans Z0 Kp4.1) (Nat.le_of_eq g6.symm)
  have sz_b6 : h0.size ≤ b6 := Nat.le_trans Kp4.1 (Nat.le_of_eq g6.symm)
  have hk := Nat.le_trans hk E6.1
  have Kp6 := Keep.ext Kp4 E6
  have F6_27 : Fld Z hp6 b6 "java/lang/String" "coder" "B" (.int (0 : Int32)) := D6 (Or.inr (hw _ (List.mem_of_getElem? (i := 27) rfl))) (ty := .byte) (by decide)
  have F6_29 : Fld Z hp6 b6 "java/lang/String" "value" "[B" .null := D6 (Or.inr (hw _ (List.mem_of_getElem? (i := 29) rfl))) (ty := (.array .byte)) (by decide)
  have ch7 : ∀ t, Steps p.tables e below (T6.setTop (mkF m 43 #[.val (.int p1), .val (.int p2), .val (.int p3), .val (.int (1 : Int32)), .val (.int (1 : Int32)), .val (.ref b1), .unset, .unset, .unset, .unset, .unset] [(.ref b6)])) t → Steps p.tables e below (s₁.setTop (entryFrame m #[(.int p1), (.int p2), (.int p3)] maxLocals)) t := fun t k => ch5 t (by
      show Steps p.tables e below (T4.setTop (mkF m 40 #[.val (.int p1), .val (.int p2), .val (.int p3), .val (.int (1 : Int32)), .val (.int (1 : Int32)), .val (.ref b1), .unset, .unset, .unset, .unset, .unset] [])) t
      exact st6 t k)
  have hp8 : ∀ c ∈ ([(nar .char ((p2 &&& (255 : Int32)).toUInt32.toUInt16.toUInt32.toInt32))] : List Int32), ¬ c < 0 ∧ ¬ (255 : Int32) < c := by
    intro c hc
    simp only [List.mem_cons, List.not_mem_nil, or_false] at hc
    rcases hc with rfl
    · exact own_chr p2
  have cf9 := (V4.ext E6)
  have cf10 := (own_sta_keep S_CS Kp6 all0)
  obtain ⟨vv11, _, ⟨T11, L11, kk11, nn11⟩, -, X11, ⟨Lc11, hQ11, l11, y11, z11⟩, st11⟩ := X6.specialBack hx (y := (⟨"java/lang/String", "<init>", "([C)V"⟩ : MethodName)) rfl hown (mvT hZ (hw _ (List.mem_of_getElem? (i := 4) rfl))) (mvT hZ (hw _ (List.mem_of_getElem? (i := 5) rfl))) (mvT hZ (hw _ (List.mem_of_getElem? (i := 6) rfl))) (by decide) (StrChars.Road.backV (W := 1) hZ (own_words hw) (kI := 4) (hw _ (List.mem_of_getElem? (i := 2) rfl)) (cs := ([(nar .char ((p2 &&& (255 : Int32)).toUInt32.toUInt16.toUInt32.toInt32))] : List Int32)) (bs := (([(nar .char ((p2 &&& (255 : Int32)).toUInt32.toUInt16.toUInt32.toInt32))] : List Int32)).map (fun c => c.toInt8.toInt32)) (n := 1) g_b6 (Nat.le_trans Z0 Kp6.1) A6 F6_29 F6_27 cf9 cf10 P5 rfl rfl (by decide) (by decide) hp8 rfl (by decide) (by decide)) (g := (mkF m 46 #[.val (.int p1), .val (.int p2), .val (.int p3), .val (.int (1 : Int32)), .val (.int (1 : Int32)), .val (.ref b1), .unset, .unset, .unset, .unset, .unset] [(.ref b1), (.ref b6), (.ref b6)])) rfl (by rw [hml]; rfl) (Steps.refl _) (a := b6) (argsL := [(.ref b1)]) (rest := [(.ref b6)]) (lenOf own_pd___C_V rfl) rfl (by show 2 * 0 + _ ≤ _; exact Nat.le_of_eq rfl) (hb hby at_46) (fun _ _ => ⟨rfl, e6, (by decide : 2 + 1 ≤ _), (by decide : 5 + 1 ≤ _)⟩)
  dsimp only [Pt.U, Pt.locs, Pt.cells, Pt.slots] at X11 l11 y11 z11 st11 hQ11
  subst l11 y11 z11
  obtain ⟨hh11, eh11⟩ : ∃ h, T11.heap = h := ⟨_, rfl⟩
  rw [eh11] at hQ11
  obtain ⟨rfl, Nq11, Kq11, fq11_0, fq11_1⟩ := hQ11
  have N11 := Fr.app N4 Nq11
  have hk := Nat.le_trans hk Kq11.1
  have Kp11 := Keep.trans Kp6 Kq11 (allS (Or.inr sz_b6) all0)
  have ch12 : ∀ t, Steps p.tables e below (T11.setTop (mkF m 49 #[.val (.int p1), .val (.int p2), .val (.int p3), .val (.int (1 : Int32)), .val (.int (1 : Int32)), .val (.ref b1), .unset, .unset, .unset, .unset, .unset] [(.ref b6)])) t → Steps p.tables e below (s₁.setTop (entryFrame m #[(.int p1), (.int p2), (.int p3)] maxLocals)) t := fun t k => ch7 t (by
      show Steps p.tables e below (T6.setTop (mkF m 43 #[.val (.int p1), .val (.int p2), .val (.int p3), .val (.int (1 : Int32)), .val (.int (1 : Int32)), .val (.ref b1), .unset, .unset, .unset, .unset, .unset] [(.ref b6)])) t
      refine XS.dup X6.here hx rfl (hb hby at_43) rfl rfl ?_
      show Steps p.tables e below (T6.setTop (mkF m 44 #[.val (.int p1), .val (.int p2), .val (.int p3), .val (.int (1 : Int32)), .val (.int (1 : Int32)), .val (.ref b1), .unset, .unset, .unset, .unset, .unset] [(.ref b6), (.ref b6)])) t
      refine XS.aload X6.here hx rfl (hb hby at_44) rfl rfl ?_
      show Steps p.tables e below (T6.setTop (mkF m 46 #[.val (.int p1), .val (.int p2), .val (.int p3), .val (.int (1 : Int32)), .val (.int (1 : Int32)), .val (.ref b1), .unset, .unset, .unset, .unset, .unset] [(.ref b1), (.ref b6), (.ref b6)])) t
      exact st11.trans k)
  have cf13 := (own_sta_keep cf10 Kq11 (allS (fun c hc => own_exa_plain A6 c hc) all0))
  obtain ⟨vv14, _, ⟨T14, L14, kk14, nn14⟩, -, X14, ⟨Lc14, hQ14, l14, y14, z14⟩, st14⟩ := Jvm.LawKit.callS X11 hx (y := (⟨"java/lang/String", "valueOf", "(C)Ljava/lang/String;"⟩ : MethodName)) hown (mvT hZ (hw _ (List.mem_of_getElem? (i := 30) rfl))) (mvT hZ (hw _ (List.mem_of_getElem? (i := 31) rfl))) (mvT hZ (hw _ (List.mem_of_getElem? (i := 3) rfl))) (mvT hZ (hw _ (List.mem_of_getElem? (i := 32) rfl))) (by decide) (backOf (W := 0) (own_vof l Z a0 hw [] hh11 n0 (Nat.le_trans Z0 Kp11.1) ((p3 &&& (255 : Int32)).toUInt32.toUInt16.toUInt32.toInt32) (own_chr2 p3) zC cf13 P5) hZ (hw _ (List.mem_of_getElem? (i := 32) rfl)) (hw _ (List.mem_of_getElem? (i := 3) rfl)) (by decide) (by decide)) (g := (mkF m 57 #[.val (.int p1), .val (.int p2), .val (.int p3), .val (.int (1 : Int32)), .val (.int (1 : Int32)), .val (.ref b1), .val (.ref b6), .unset, .unset, .unset, .unset] [(.int ((p3 &&& (255 : Int32)).toUInt32.toUInt16.toUInt32.toInt32))])) rfl (by rw [hml]; rfl) (argsL := [(.int ((p3 &&& (255 : Int32)).toUInt32.toUInt16.toUInt32.toInt32))]) (rest := []) (lenOf own_pd__C_Ljava_lang_String_ rfl) rfl (by show 2 * 0 + _ ≤ _; exact Nat.le_of_eq rfl) (hb hby at_57) (fun _ _ => ⟨rfl, eh11, (by decide : 3 + 2 ≤ _), (by decide : 6 + 5 ≤ _)⟩)
  dsimp only [Pt.U, Pt.locs, Pt.cells, Pt.slots] at X14 l14 y14 z14 st14 hQ14
  subst l14 y14 z14
  obtain ⟨hh14, eh14⟩ : ∃ h, T14.heap = h := ⟨_, rfl⟩
  rw [eh14] at hQ14
  obtain ⟨vs, rfl, zq14, Nq14, Kq14, fq14_0⟩ := hQ14
  have N14 := Fr.app N11 Nq14
  have hk := Nat.le_trans hk Kq14.1
  have cf15 := (cf9.keep Kq11 (ninS ne_b1_b6 nin0))
  have ne_b1_vs : b1 ≠ vs := Nat.ne_of_lt (Nat.lt_of_lt_of_le cf15.lt zq14)
  have ne_b6_vs : b6 ≠ vs := Nat.ne_of_lt (Nat.lt_of_lt_of_le fq11_0.lt zq14)
  have g_vs : n0 ≤ vs := Nat.le_trans (Nat.le_trans Z0 Kp11.1) zq14
  have sz_vs : h0.size ≤ vs := Nat.le_trans Kp11.1 zq14
  have Kp14 := Keep.trans Kp11 Kq14 all0
  have ch16 : ∀ t, Steps p.tables e below (T14.setTop (mkF m 60 #[.val (.int p1), .val (.int p2), .val (.int p3), .val (.int (1 : Int32)), .val (.int (1 : Int32)), .val (.ref b1), .val (.ref b6), .unset, .unset, .unset, .unset] [(.ref vs)])) t → Steps p.tables e below (s₁.setTop (entryFrame m #[(.int p1), (.int p2), (.int p3)] maxLocals)) t := fun t k => ch12 t (by
      show Steps p.tables e below (T11.setTop (mkF m 49 #[.val (.int p1), .val (.int p2), .val (.int p3), .val (.int (1 : Int32)), .val (.int (1 : Int32)), .val (.ref b1), .unset, .unset, .unset, .unset, .unset] [(.ref b6)])) t
      refine XS.astore X11.here hx rfl (hb hby at_49) rfl rfl (l' := #[.val (.int p1), .val (.int p2), .val (.int p3), .val (.int (1 : Int32)), .val (.int (1 : Int32)), .val (.ref b1), .val (.ref b6), .unset, .unset, .unset, .unset]) rfl ?_
      show Steps p.tables e below (T11.setTop (mkF m 51 #[.val (.int p1), .val (.int p2), .val (.int p3), .val (.int (1 : Int32)), .val (.int (1 : Int32)), .val (.ref b1), .val (.ref b6), .unset, .unset, .unset, .unset] [])) t
      refine XS.iloadN X11.here hx rfl (hb hby at_51) rfl ?_
      show Steps p.tables e below (T11.setTop (mkF m 52 #[.val (.int p1), .val (.int p2), .val (.int p3), .val (.int (1 : Int32)), .val (.int (1 : Int32)), .val (.ref b1), .val (.ref b6), .unset, .unset, .unset, .unset] [(.int p3)])) t
      refine XS.sipush X11.here hx rfl (hb hby at_52) ?_
      show Steps p.tables e below (T11.setTop (mkF m 55 #[.val (.int p1), .val (.int p2), .val (.int p3), .val (.int (1 : Int32)), .val (.int (1 : Int32)), .val (.ref b1), .val (.ref b6), .unset, .unset, .unset, .unset] [(.int (255 : Int32)), (.int p3)])) t
      refine XS.iand X11.here hx rfl (hb hby at_55) rfl ?_
      show Steps p.tables e below (T11.setTop (mkF m 56 #[.val (.int p1), .val (.int p2), .val (.int p3), .val (.int (1 : Int32)), .val (.int (1 : Int32)), .val (.ref b1), .val (.ref b6), .unset, .unset, .unset, .unset] [(.int (p3 &&& (255 : Int32)))])) t
      refine XS.i2c X11.here hx rfl (hb hby at_56) rfl ?_
      show Steps p.tables e below (T11.setTop (mkF m 57 #[.val (.int p1), .val (.int p2), .val (.int p3), .val (.int (1 : Int32)), .val (.int (1 : Int32)), .val (.ref b1), .val (.ref b6), .unset, .unset, .unset, .unset] [(.int ((p3 &&& (255 : Int32)).toUInt32.toUInt16.toUInt32.toInt32))])) t
      exact st14 t k)
  obtain ⟨T17, hp17, X17, e17, E17, A17, D17, -, st17⟩ := newO X14 hx hZ hown (hw _ (List.mem_of_getElem? (i := 44) rfl)) (hw _ (List.mem_of_getElem? (i := 45) rfl)) (hw _ (List.mem_of_getElem? (i := 46) rfl)) eh14 (g := (mkF m 62 #[.val (.int p1), .val (.int p2), .val (.int p3), .val (.int (1 : Int32)), .val (.int (1 : Int32)), .val (.ref b1), .val (.ref b6), .val (.ref vs), .unset, .unset, .unset] [])) rfl (hb hby at_62) (by decide) (by decide)
  obtain ⟨b17, g17⟩ : ∃ z, z = hh14.size := ⟨_, rfl⟩
  rw [← g17] at A17 D17 st17
  have cf18 := (cf15.keep Kq14 nin0)
  have ne_b1_b17 : b1 ≠ b17 := Nat.ne_of_lt (Nat.lt_of_lt_of_le cf18.lt (Nat.le_of_eq g17.symm))
  have cf19 := (fq11_0.keep Kq14)
  have ne_b6_b17 : b6 ≠ b17 := Nat.ne_of_lt (Nat.lt_of_lt_of_le cf19.lt (Nat.le_of_eq g17.symm))
  have ne_vs_b17 : vs ≠ b17 := Nat.ne_of_lt (Nat.lt_of_lt_of_le fq14_0.lt (Nat.le_of_eq g17.symm))
  have g_b17 : n0 ≤ b17 := Nat.le_trans (Nat.le_trans Z0 Kp14.1) (Nat.le_of_eq g17.symm)
  have sz_b17 : h0.size ≤ b17 := Nat.le_trans Kp14.1 (Nat.le_of_eq g17.symm)
  have hk := Nat.le_trans hk E17.1
  have Kp17 := Keep.ext Kp14 E17
  have F17_60 : Fld Z hp17 b17 "com/example/nokkel/nokkel/core/ClientRecord" "owner" "Ljava/lang/String;" .null := D17 (Or.inr (hw _ (List.mem_of_getElem? (i := 60) rfl))) (ty := (.object "java/lang/String")) (by decide)
  have F17_63 : Fld Z hp17 b17 "com/example/nokkel/nokkel/core/ClientRecord" "verifier" "Ljava/lang/String;" .null := D17 (Or.inr (hw _ (List.mem_of_getElem? (i := 63) rfl))) (ty := (.object "java/lang/String")) (by decide)
  have F17_65 : Fld Z hp17 b17 "com/example/nokkel/nokkel/core/ClientRecord" "locksRevoked" "Z" (.int (0 : Int32)) := D17 (Or.inr (hw _ (List.mem_of_getElem? (i := 65) rfl))) (ty := .boolean) (by decide)
  have F17_67 : Fld Z hp17 b17 "com/example/nokkel/nokkel/core/ClientRecord" "graceMissed" "Z" (.int (0 : Int32)) := D17 (Or.inr (hw _ (List.mem_of_getElem? (i := 67) rfl))) (ty := .boolean) (by decide)
  have ch20 : ∀ t, Steps p.tables e below (T17.setTop (mkF m 65 #[.val (.int p1), .val (.int p2), .val (.int p3), .val (.int (1 : Int32)), .val (.int (1 : Int32)), .val (.ref b1), .val (.ref b6), .val (.ref vs), .unset, .unset, .unset] [(.ref b17)])) t → Steps p.tables e below (s₁.setTop (entryFrame m #[(.int p1), (.int p2), (.int p3)] maxLocals)) t := fun t k => ch16 t (by
      show Steps p.tables e below (T14.setTop (mkF m 60 #[.val (.int p1), .val (.int p2), .val (.int p3), .val (.int (1 : Int32)), .val (.int (1 : Int32)), .val (.ref b1), .val (.ref b6), .unset, .unset, .unset, .unset] [(.ref vs)])) t
      refine XS.astore X14.here hx rfl (hb hby at_60) rfl rfl (l' := #[.val (.int p1), .val (.int p2), .val (.int p3), .val (.int (1 : Int32)), .val (.int (1 : Int32)), .val (.ref b1), .val (.ref b6), .val (.ref vs), .unset, .unset, .unset]) rfl ?_
      show Steps p.tables e below (T14.setTop (mkF m 62 #[.val (.int p1), .val (.int p2), .val (.int p3), .val (.int (1 : Int32)), .val (.int (1 : Int32)), .val (.ref b1), .val (.ref b6), .val (.ref vs), .unset, .unset, .unset] [])) t
      exact st17 t k)
  have cf21 := (cf19.ext E17)
  have cf22 := (fq14_0.ext E17)
  obtain ⟨vv23, _, ⟨T23, L23, kk23, nn23⟩, -, X23, hS2, hgr, ⟨Lc23, hQ23, l23, y23, z23⟩, st23⟩ := X17.specialBackS hx (y := (⟨"com/example/nokkel/nokkel/core/ClientRecord", "<init>", "(Ljava/lang/String;Ljava/lang/String;ZZ)V"⟩ : MethodName)) rfl hown (mvT hZ (hw _ (List.mem_of_getElem? (i := 47) rfl))) (mvT hZ (hw _ (List.mem_of_getElem? (i := 48) rfl))) (mvT hZ (hw _ (List.mem_of_getElem? (i := 49) rfl))) (by decide) (backOfS (W := 1) (own_ini_11 l Z a0 hw [] hp17 n0 (Nat.le_trans Z0 Kp17.1) b17 b6 vs A17 F17_60 F17_63 F17_65 F17_67 g_b17 cf21 cf22) hZ (hw _ (List.mem_of_getElem? (i := 49) rfl)) (hw _ (List.mem_of_getElem? (i := 46) rfl)) (by decide) (by decide)) (g := (mkF m 73 #[.val (.int p1), .val (.int p2), .val (.int p3), .val (.int (1 : Int32)), .val (.int (1 : Int32)), .val (.ref b1), .val (.ref b6), .val (.ref vs), .unset, .unset, .unset] [(.int (1 : Int32)), (.int (1 : Int32)), (.ref vs), (.ref b6), (.ref b17), (.ref b17)])) rfl (by rw [hml]; rfl) (Steps.refl _) (a := b17) (argsL := [(.ref b6), (.ref vs), (.int (1 : Int32)), (.int (1 : Int32))]) (rest := [(.ref b17)]) (lenOf own_pd__Ljava_lang_String_Ljava_lang_String_ZZ_V rfl) rfl (by show 2 * 0 + _ ≤ _; exact Nat.le_of_eq rfl) (hb hby at_73) (fun _ _ => ⟨rfl, e17, (by decide : 6 + 4 ≤ _), (by decide : 15 + 60 ≤ _)⟩)
  dsimp only [Pt.U, Pt.locs, Pt.cells, Pt.slots] at X23 l23 y23 z23 st23 hQ23 hS2 hgr
  subst l23 y23 z23
  obtain ⟨X23, hS, hZ, hown⟩ := rebS hS (by rw [e17]; exact hk) X23 hS2 hgr hZ hown
  obtain ⟨hh23, eh23⟩ : ∃ h, T23.heap = h := ⟨_, rfl⟩
  rw [eh23] at hQ23
  rw [eh23] at hS
  have hk : hh23.size ≤ hh23.size := Nat.le_refl _
  obtain ⟨rfl, Nq23, Kq23, fq23_0, fq23_1, fq23_2, fq23_3, fq23_4⟩ := hQ23
  have N23 := Fr.app N14 Nq23
  have Kp23 := Keep.trans Kp17 Kq23 (allS (Or.inr sz_b17) all0)
  have ch24 : ∀ t, Steps p.tables e below (T23.setTop (mkF m 76 #[.val (.int p1), .val (.int p2), .val (.int p3), .val (.int (1 : Int32)), .val (.int (1 : Int32)), .val (.ref b1), .val (.ref b6), .val (.ref vs), .unset, .unset, .unset] [(.ref b17)])) t → Steps p.tables e below (s₁.setTop (entryFrame m #[(.int p1), (.int p2), (.int p3)] maxLocals)) t := fun t k => ch20 t (by
      show Steps p.tables e below (T17.setTop (mkF m 65 #[.val (.int p1), .val (.int p2), .val (.int p3), .val (.int (1 : Int32)), .val (.int (1 : Int32)), .val (.ref b1), .val (.ref b6), .val (.ref vs), .unset, .unset, .unset] [(.ref b17)])) t
      refine XS.dup X17.here hx rfl (hb hby at_65) rfl rfl ?_
      show Steps p.tables e below (T17.setTop (mkF m 66 #[.val (.int p1), .val (.int p2), .val (.int p3), .val (.int (1 : Int32)), .val (.int (1 : Int32)), .val (.ref b1), .val (.ref b6), .val (.ref vs), .unset, .unset, .unset] [(.ref b17), (.ref b17)])) t
      refine XS.aload X17.here hx rfl (hb hby at_66) rfl rfl ?_
      show Steps p.tables e below (T17.setTop (mkF m 68 #[.val (.int p1), .val (.int p2), .val (.int p3), .val (.int (1 : Int32)), .val (.int (1 : Int32)), .val (.ref b1), .val (.ref b6), .val (.ref vs), .unset, .unset, .unset] [(.ref b6), (.ref b17), (.ref b17)])) t
      refine XS.aload X17.here hx rfl (hb hby at_68) rfl rfl ?_
      show Steps p.tables e below (T17.setTop (mkF m 70 #[.val (.int p1), .val (.int p2), .val (.int p3), .val (.int (1 : Int32)), .val (.int (1 : Int32)), .val (.ref b1), .val (.ref b6), .val (.ref vs), .unset, .unset, .unset] [(.ref vs), (.ref b6), (.ref b17), (.ref b17)])) t
      refine XS.iloadN X17.here hx rfl (hb hby at_70) rfl ?_
      show Steps p.tables e below (T17.setTop (mkF m 71 #[.val (.int p1), .val (.int p2), .val (.int p3), .val (.int (1 : Int32)), .val (.int (1 : Int32)), .val (.ref b1), .val (.ref b6), .val (.ref vs), .unset, .unset, .unset] [(.int (1 : Int32)), (.ref vs), (.ref b6), (.ref b17), (.ref b17)])) t
      refine XS.iload X17.here hx rfl (hb hby at_71) rfl ?_
      show Steps p.tables e below (T17.setTop (mkF m 73 #[.val (.int p1), .val (.int p2), .val (.int p3), .val (.int (1 : Int32)), .val (.int (1 : Int32)), .val (.ref b1), .val (.ref b6), .val (.ref vs), .unset, .unset, .unset] [(.int (1 : Int32)), (.int (1 : Int32)), (.ref vs), (.ref b6), (.ref b17), (.ref b17)])) t
      exact st23.trans k)
  have cf25 := (cf21.keep Kq23)
  have cf26 := (cf22.keep Kq23)
  obtain ⟨cq27, kq27, qa27, qb27, qc27⟩ := isOf hZ eh23 fq23_0
  obtain ⟨vv28, _, ⟨T28, L28, kk28, nn28⟩, -, X28, ⟨Lc28, hQ28, l28, y28, z28⟩, st28⟩ := X23.virtualBack hx (y := (⟨"com/example/nokkel/nokkel/core/ClientRecord", "isMarked", "()Z"⟩ : MethodName)) (z := (⟨"com/example/nokkel/nokkel/core/ClientRecord", "isMarked", "()Z"⟩ : MethodName)) hown (mvT hZ (hw _ (List.mem_of_getElem? (i := 68) rfl))) (mvT hZ (hw _ (List.mem_of_getElem? (i := 69) rfl))) (notFace_of_selects (args := #[]) (mvT hZ (hw _ (List.mem_of_getElem? (i := 71) rfl)))) (mvT hZ (hw _ (List.mem_of_getElem? (i := 71) rfl))) (mvT hZ (hw _ (List.mem_of_getElem? (i := 70) rfl))) (by decide) (backOf (W := 0) (own_mark_11 l Z a0 hw [] hh23 n0 (Nat.le_trans Z0 Kp23.1) b17 b6 vs fq23_1 fq23_2 fq23_3 fq23_4 cf25 cf26) hZ (hw _ (List.mem_of_getElem? (i := 72) rfl)) (hw _ (List.mem_of_getElem? (i := 46) rfl)) (by decide) (by decide)) qa27 qc27 (g := (mkF m 104 #[.val (.int p1), .val (.int p2), .val (.int p3), .val (.int (1 : Int32)), .val (.int (1 : Int32)), .val (.ref b1), .val (.ref b6), .val (.ref vs), .val (.ref b17), .val (.int (1 : Int32)), .unset] [(.ref b17)])) rfl (by rw [hml]; rfl) (Steps.refl _) (argsL := []) (rest := []) (lenOf own_pd___Z rfl) rfl (by show 2 * 0 + _ ≤ _; exact Nat.le_of_eq rfl) (hb hby at_104) (fun _ _ => ⟨rfl, eh23, (by decide : 10 + 0 ≤ _), (by decide : 75 + 0 ≤ _)⟩)
  dsimp only [Pt.U, Pt.locs, Pt.cells, Pt.slots] at X28 l28 y28 z28 st28 hQ28
  subst l28 y28 z28
  obtain ⟨rfl, Nq28, e28⟩ := hQ28
  have N28 := Fr.app N23 Nq28
  have ch29 : ∀ t, Steps p.tables e below (T28.setTop (mkF m 107 #[.val (.int p1), .val (.int p2), .val (.int p3), .val (.int (1 : Int32)), .val (.int (1 : Int32)), .val (.ref b1), .val (.ref b6), .val (.ref vs), .val (.ref b17), .val (.int (1 : Int32)), .unset] [(.int (1 : Int32))])) t → Steps p.tables e below (s₁.setTop (entryFrame m #[(.int p1), (.int p2), (.int p3)] maxLocals)) t := fun t k => ch24 t (by
      show Steps p.tables e below (T23.setTop (mkF m 76 #[.val (.int p1), .val (.int p2), .val (.int p3), .val (.int (1 : Int32)), .val (.int (1 : Int32)), .val (.ref b1), .val (.ref b6), .val (.ref vs), .unset, .unset, .unset] [(.ref b17)])) t
      refine XS.astore X23.here hx rfl (hb hby at_76) rfl rfl (l' := #[.val (.int p1), .val (.int p2), .val (.int p3), .val (.int (1 : Int32)), .val (.int (1 : Int32)), .val (.ref b1), .val (.ref b6), .val (.ref vs), .val (.ref b17), .unset, .unset]) rfl ?_
      show Steps p.tables e below (T23.setTop (mkF m 78 #[.val (.int p1), .val (.int p2), .val (.int p3), .val (.int (1 : Int32)), .val (.int (1 : Int32)), .val (.ref b1), .val (.ref b6), .val (.ref vs), .val (.ref b17), .unset, .unset] [])) t
      refine XS.iloadN X23.here hx rfl (hb hby at_78) rfl ?_
      show Steps p.tables e below (T23.setTop (mkF m 79 #[.val (.int p1), .val (.int p2), .val (.int p3), .val (.int (1 : Int32)), .val (.int (1 : Int32)), .val (.ref b1), .val (.ref b6), .val (.ref vs), .val (.ref b17), .unset, .unset] [(.int (1 : Int32))])) t
      refine XS.ifNo X23.here hx rfl (hb hby at_79) rfl ((if0 _ _).trans (feq (by decide : ¬ (1 : Int32) = (0 : Int32))).1) ?_
      show Steps p.tables e below (T23.setTop (mkF m 82 #[.val (.int p1), .val (.int p2), .val (.int p3), .val (.int (1 : Int32)), .val (.int (1 : Int32)), .val (.ref b1), .val (.ref b6), .val (.ref vs), .val (.ref b17), .unset, .unset] [])) t
      refine XS.iconst X23.here hx rfl (hb hby at_82) ?_
      show Steps p.tables e below (T23.setTop (mkF m 83 #[.val (.int p1), .val (.int p2), .val (.int p3), .val (.int (1 : Int32)), .val (.int (1 : Int32)), .val (.ref b1), .val (.ref b6), .val (.ref vs), .val (.ref b17), .unset, .unset] [(.int (1 : Int32))])) t
      refine XS.istore X23.here hx rfl (hb hby at_83) rfl (l' := #[.val (.int p1), .val (.int p2), .val (.int p3), .val (.int (1 : Int32)), .val (.int (1 : Int32)), .val (.ref b1), .val (.ref b6), .val (.ref vs), .val (.ref b17), .val (.int (1 : Int32)), .unset]) rfl ?_
      show Steps p.tables e below (T23.setTop (mkF m 85 #[.val (.int p1), .val (.int p2), .val (.int p3), .val (.int (1 : Int32)), .val (.int (1 : Int32)), .val (.ref b1), .val (.ref b6), .val (.ref vs), .val (.ref b17), .val (.int (1 : Int32)), .unset] [])) t
      refine XS.goto X23.here hx rfl (pc0 := 85) (pc' := 102) rfl (hb hby at_85) (by decide) (by decide) ?_
      show Steps p.tables e below (T23.setTop (mkF m 102 #[.val (.int p1), .val (.int p2), .val (.int p3), .val (.int (1 : Int32)), .val (.int (1 : Int32)), .val (.ref b1), .val (.ref b6), .val (.ref vs), .val (.ref b17), .val (.int (1 : Int32)), .unset] [])) t
      refine XS.aload X23.here hx rfl (hb hby at_102) rfl rfl ?_
      show Steps p.tables e below (T23.setTop (mkF m 104 #[.val (.int p1), .val (.int p2), .val (.int p3), .val (.int (1 : Int32)), .val (.int (1 : Int32)), .val (.ref b1), .val (.ref b6), .val (.ref vs), .val (.ref b17), .val (.int (1 : Int32)), .unset] [(.ref b17)])) t
      exact st28.trans k)
  obtain ⟨cq30, kq30, qa30, qb30, qc30⟩ := isOf hZ e28 fq23_0
  obtain ⟨vv31, _, ⟨T31, L31, kk31, nn31⟩, -, X31, hS2, hgr, ⟨Lc31, hQ31, l31, y31, z31⟩, st31⟩ := X28.virtualBackS hx (y := (⟨"com/example/nokkel/nokkel/core/ClientRecord", "withLocksRevoked", "(Z)Lcom/example/nokkel/nokkel/core/ClientRecord;"⟩ : MethodName)) (z := (⟨"com/example/nokkel/nokkel/core/ClientRecord", "withLocksRevoked", "(Z)Lcom/example/nokkel/nokkel/core/ClientRecord;"⟩ : MethodName)) hown (mvT hZ (hw _ (List.mem_of_getElem? (i := 73) rfl))) (mvT hZ (hw _ (List.mem_of_getElem? (i := 74) rfl))) (notFace_of_selects (args := #[]) (mvT hZ (hw _ (List.mem_of_getElem? (i := 76) rfl)))) (mvT hZ (hw _ (List.mem_of_getElem? (i := 76) rfl))) (mvT hZ (hw _ (List.mem_of_getElem? (i := 75) rfl))) (by decide) (backOfS (W := 0) (own_wlr_11 l Z a0 hw [] hh23 n0 (Nat.le_trans Z0 Kp23.1) b17 b6 vs fq23_1 fq23_2 fq23_3 fq23_4 cf25 cf26) hZ (hw _ (List.mem_of_getElem? (i := 77) rfl)) (hw _ (List.mem_of_getElem? (i := 46) rfl)) (by decide) (by decide)) qa30 qc30 (g := (mkF m 117 #[.val (.int p1), .val (.int p2), .val (.int p3), .val (.int (1 : Int32)), .val (.int (1 : Int32)), .val (.ref b1), .val (.ref b6), .val (.ref vs), .val (.ref b17), .val (.int (1 : Int32)), .unset] [(.int (0 : Int32)), (.ref b17)])) rfl (by rw [hml]; rfl) (Steps.refl _) (argsL := [(.int (0 : Int32))]) (rest := []) (lenOf own_pd__Z_Lcom_example_nokkel_nokkel_core_ClientRecord_ rfl) rfl (by show 2 * 0 + _ ≤ _; exact Nat.le_of_eq rfl) (hb hby at_117) (fun _ _ => ⟨rfl, e28, (by decide : 10 + 5 ≤ _), (by decide : 75 + 64 ≤ _)⟩)
  dsimp only [Pt.U, Pt.locs, Pt.cells, Pt.slots] at X31 l31 y31 z31 st31 hQ31 hS2 hgr
  subst l31 y31 z31
  obtain ⟨X31, hS, hZ, hown⟩ := rebS hS (by rw [e28]; exact hk) X31 hS2 hgr hZ hown
  obtain ⟨hh31, eh31⟩ : ∃ h, T31.heap = h := ⟨_, rfl⟩
  rw [eh31] at hQ31
  rw [eh31] at hS
  have hk : hh31.size ≤ hh31.size := Nat.le_refl _
  obtain ⟨ra, rfl, zq31, Nq31, Kq31, fq31_0, fq31_1, fq31_2, fq31_3, fq31_4⟩ := hQ31
  have N31 := Fr.app N28 Nq31
  have cf32 := ((cf18.ext E17).keep Kq23 (ninS ne_b1_b17 nin0))
  have ne_b1_ra : b1 ≠ ra := Nat.ne_of_lt (Nat.lt_of_lt_of_le cf32.lt zq31)
  have ne_b6_ra : b6 ≠ ra := Nat.ne_of_lt (Nat.lt_of_lt_of_le cf25.lt zq31)
  have ne_vs_ra : vs ≠ ra := Nat.ne_of_lt (Nat.lt_of_lt_of_le cf26.lt zq31)
  have ne_b17_ra : b17 ≠ ra := Nat.ne_of_lt (Nat.lt_of_lt_of_le fq23_0.lt zq31)
  have g_ra : n0 ≤ ra := Nat.le_trans (Nat.le_trans Z0 Kp23.1) zq31
  have sz_ra : h0.size ≤ ra := Nat.le_trans Kp23.1 zq31
  have Kp31 := Keep.trans Kp23 Kq31 all0
  have ch33 : ∀ t, Steps p.tables e below (T31.setTop (mkF m 120 #[.val (.int p1), .val (.int p2), .val (.int p3), .val (.int (1 : Int32)), .val (.int (1 : Int32)), .val (.ref b1), .val (.ref b6), .val (.ref vs), .val (.ref b17), .val (.int (1 : Int32)), .unset] [(.ref ra)])) t → Steps p.tables e below (s₁.setTop (entryFrame m #[(.int p1), (.int p2), (.int p3)] maxLocals)) t := fun t k => ch29 t (by
      show Steps p.tables e below (T28.setTop (mkF m 107 #[.val (.int p1), .val (.int p2), .val (.int p3), .val (.int (1 : Int32)), .val (.int (1 : Int32)), .val (.ref b1), .val (.ref b6), .val (.ref vs), .val (.ref b17), .val (.int (1 : Int32)), .unset] [(.int (1 : Int32))])) t
      refine XS.iload X28.here hx rfl (hb hby at_107) rfl ?_
      show Steps p.tables e below (T28.setTop (mkF m 109 #[.val (.int p1), .val (.int p2), .val (.int p3), .val (.int (1 : Int32)), .val (.int (1 : Int32)), .val (.ref b1), .val (.ref b6), .val (.ref vs), .val (.ref b17), .val (.int (1 : Int32)), .unset] [(.int (1 : Int32)), (.int (1 : Int32))])) t
      refine XS.icmpYes X28.here hx rfl (pc0 := 109) (pc' := 114) rfl (hb hby at_109) rfl (teq (by decide : (1 : Int32) = (1 : Int32))).1 (by decide) (by decide) ?_
      show Steps p.tables e below (T28.setTop (mkF m 114 #[.val (.int p1), .val (.int p2), .val (.int p3), .val (.int (1 : Int32)), .val (.int (1 : Int32)), .val (.ref b1), .val (.ref b6), .val (.ref vs), .val (.ref b17), .val (.int (1 : Int32)), .unset] [])) t
      refine XS.aload X28.here hx rfl (hb hby at_114) rfl rfl ?_
      show Steps p.tables e below (T28.setTop (mkF m 116 #[.val (.int p1), .val (.int p2), .val (.int p3), .val (.int (1 : Int32)), .val (.int (1 : Int32)), .val (.ref b1), .val (.ref b6), .val (.ref vs), .val (.ref b17), .val (.int (1 : Int32)), .unset] [(.ref b17)])) t
      refine XS.iconst X28.here hx rfl (hb hby at_116) ?_
      show Steps p.tables e below (T28.setTop (mkF m 117 #[.val (.int p1), .val (.int p2), .val (.int p3), .val (.int (1 : Int32)), .val (.int (1 : Int32)), .val (.ref b1), .val (.ref b6), .val (.ref vs), .val (.ref b17), .val (.int (1 : Int32)), .unset] [(.int (0 : Int32)), (.ref b17)])) t
      exact st31.trans k)
  have cf34 := (cf25.keep Kq31)
  have cf35 := (cf26.keep Kq31)
  obtain ⟨cq36, kq36, qa36, qb36, qc36⟩ := isOf hZ eh31 fq31_0
  obtain ⟨vv37, _, ⟨T37, L37, kk37, nn37⟩, -, X37, hS2, hgr, ⟨Lc37, hQ37, l37, y37, z37⟩, st37⟩ := X31.virtualBackS hx (y := (⟨"com/example/nokkel/nokkel/core/ClientRecord", "withGraceMissed", "(Z)Lcom/example/nokkel/nokkel/core/ClientRecord;"⟩ : MethodName)) (z := (⟨"com/example/nokkel/nokkel/core/ClientRecord", "withGraceMissed", "(Z)Lcom/example/nokkel/nokkel/core/ClientRecord;"⟩ : MethodName)) hown (mvT hZ (hw _ (List.mem_of_getElem? (i := 80) rfl))) (mvT hZ (hw _ (List.mem_of_getElem? (i := 81) rfl))) (notFace_of_selects (args := #[]) (mvT hZ (hw _ (List.mem_of_getElem? (i := 83) rfl)))) (mvT hZ (hw _ (List.mem_of_getElem? (i := 83) rfl))) (mvT hZ (hw _ (List.mem_of_getElem? (i := 82) rfl))) (by decide) (backOfS (W := 0) (own_wgm_01 l Z a0 hw [] hh31 n0 (Nat.le_trans Z0 Kp31.1) ra b6 vs fq31_1 fq31_2 fq31_3 fq31_4 cf34 cf35) hZ (hw _ (List.mem_of_getElem? (i := 84) rfl)) (hw _ (List.mem_of_getElem? (i := 46) rfl)) (by decide) (by decide)) qa36 qc36 (g := (mkF m 121 #[.val (.int p1), .val (.int p2), .val (.int p3), .val (.int (1 : Int32)), .val (.int (1 : Int32)), .val (.ref b1), .val (.ref b6), .val (.ref vs), .val (.ref b17), .val (.int (1 : Int32)), .unset] [(.int (0 : Int32)), (.ref ra)])) rfl (by rw [hml]; rfl) (Steps.refl _) (argsL := [(.int (0 : Int32))]) (rest := []) (lenOf own_pd__Z_Lcom_example_nokkel_nokkel_core_ClientRecord_ rfl) rfl (by show 2 * 0 + _ ≤ _; exact Nat.le_of_eq rfl) (hb hby at_121) (fun _ _ => ⟨rfl, eh31, (by decide : 15 + 5 ≤ _), (by decide : 139 + 64 ≤ _)⟩)
  dsimp only [Pt.U, Pt.locs, Pt.cells, Pt.slots] at X37 l37 y37 z37 st37 hQ37 hS2 hgr
  subst l37 y37 z37
  obtain ⟨X37, hS, hZ, hown⟩ := rebS hS (by rw [eh31]; exact hk) X37 hS2 hgr hZ hown
  obtain ⟨hh37, eh37⟩ : ∃ h, T37.heap = h := ⟨_, rfl⟩
  rw [eh37] at hQ37
  rw [eh37] at hS
  have hk : hh37.size ≤ hh37.size := Nat.le_refl _
  obtain ⟨rz, rfl, zq37, Nq37, Kq37, fq37_0, fq37_1, fq37_2, fq37_3, fq37_4⟩ := hQ37
  have N37 := Fr.app N31 Nq37
  have cf38 := (cf32.keep Kq31 nin0)
  have ne_b1_rz : b1 ≠ rz := Nat.ne_of_lt (Nat.lt_of_lt_of_le cf38.lt zq37)
  have ne_b6_rz : b6 ≠ rz := Nat.ne_of_lt (Nat.lt_of_lt_of_le cf34.lt zq37)
  have ne_vs_rz : vs ≠ rz := Nat.ne_of_lt (Nat.lt_of_lt_of_le cf35.lt zq37)
  have cf39 := (fq23_0.keep Kq31)
  have ne_b17_rz : b17 ≠ rz := Nat.ne_of_lt (Nat.lt_of_lt_of_le cf39.lt zq37)
  have ne_ra_rz : ra ≠ rz := Nat.ne_of_lt (Nat.lt_of_lt_of_le fq31_0.lt zq37)
  have g_rz : n0 ≤ rz := Nat.le_trans (Nat.le_trans Z0 Kp31.1) zq37
  have sz_rz : h0.size ≤ rz := Nat.le_trans Kp31.1 zq37
  have Kp37 := Keep.trans Kp31 Kq37 all0
  have ch40 : ∀ t, Steps p.tables e below (T37.setTop (mkF m 124 #[.val (.int p1), .val (.int p2), .val (.int p3), .val (.int (1 : Int32)), .val (.int (1 : Int32)), .val (.ref b1), .val (.ref b6), .val (.ref vs), .val (.ref b17), .val (.int (1 : Int32)), .unset] [(.ref rz)])) t → Steps p.tables e below (s₁.setTop (entryFrame m #[(.int p1), (.int p2), (.int p3)] maxLocals)) t := fun t k => ch33 t (by
      show Steps p.tables e below (T31.setTop (mkF m 120 #[.val (.int p1), .val (.int p2), .val (.int p3), .val (.int (1 : Int32)), .val (.int (1 : Int32)), .val (.ref b1), .val (.ref b6), .val (.ref vs), .val (.ref b17), .val (.int (1 : Int32)), .unset] [(.ref ra)])) t
      refine XS.iconst X31.here hx rfl (hb hby at_120) ?_
      show Steps p.tables e below (T31.setTop (mkF m 121 #[.val (.int p1), .val (.int p2), .val (.int p3), .val (.int (1 : Int32)), .val (.int (1 : Int32)), .val (.ref b1), .val (.ref b6), .val (.ref vs), .val (.ref b17), .val (.int (1 : Int32)), .unset] [(.int (0 : Int32)), (.ref ra)])) t
      exact st37.trans k)
  have cf41 := (cf34.keep Kq37)
  have cf42 := (cf35.keep Kq37)
  obtain ⟨cq43, kq43, qa43, qb43, qc43⟩ := isOf hZ eh37 fq37_0
  obtain ⟨vv44, _, ⟨T44, L44, kk44, nn44⟩, -, X44, ⟨Lc44, hQ44, l44, y44, z44⟩, st44⟩ := X37.virtualBack hx (y := (⟨"com/example/nokkel/nokkel/core/ClientRecord", "isMarked", "()Z"⟩ : MethodName)) (z := (⟨"com/example/nokkel/nokkel/core/ClientRecord", "isMarked", "()Z"⟩ : MethodName)) hown (mvT hZ (hw _ (List.mem_of_getElem? (i := 68) rfl))) (mvT hZ (hw _ (List.mem_of_getElem? (i := 69) rfl))) (notFace_of_selects (args := #[]) (mvT hZ (hw _ (List.mem_of_getElem? (i := 71) rfl)))) (mvT hZ (hw _ (List.mem_of_getElem? (i := 71) rfl))) (mvT hZ (hw _ (List.mem_of_getElem? (i := 70) rfl))) (by decide) (backOf (W := 0) (own_mark_00 l Z a0 hw [] hh37 n0 (Nat.le_trans Z0 Kp37.1) rz b6 vs fq37_1 fq37_2 fq37_3 fq37_4 cf41 cf42) hZ (hw _ (List.mem_of_getElem? (i := 72) rfl)) (hw _ (List.mem_of_getElem? (i := 46) rfl)) (by decide) (by decide)) qa43 qc43 (g := (mkF m 128 #[.val (.int p1), .val (.int p2), .val (.int p3), .val (.int (1 : Int32)), .val (.int (1 : Int32)), .val (.ref b1), .val (.ref b6), .val (.ref vs), .val (.ref b17), .val (.int (1 : Int32)), .val (.ref rz)] [(.ref rz)])) rfl (by rw [hml]; rfl) (Steps.refl _) (argsL := []) (rest := []) (lenOf own_pd___Z rfl) rfl (by show 2 * 0 + _ ≤ _; exact Nat.le_of_eq rfl) (hb hby at_128) (fun _ _ => ⟨rfl, eh37, (by decide : 20 + 0 ≤ _), (by decide : 203 + 0 ≤ _)⟩)
  dsimp only [Pt.U, Pt.locs, Pt.cells, Pt.slots] at X44 l44 y44 z44 st44 hQ44
  subst l44 y44 z44
  obtain ⟨rfl, Nq44, e44⟩ := hQ44
  have N44 := Fr.app N37 Nq44
  have ch45 : ∀ t, Steps p.tables e below (T44.setTop (mkF m 131 #[.val (.int p1), .val (.int p2), .val (.int p3), .val (.int (1 : Int32)), .val (.int (1 : Int32)), .val (.ref b1), .val (.ref b6), .val (.ref vs), .val (.ref b17), .val (.int (1 : Int32)), .val (.ref rz)] [(.int (0 : Int32))])) t → Steps p.tables e below (s₁.setTop (entryFrame m #[(.int p1), (.int p2), (.int p3)] maxLocals)) t := fun t k => ch40 t (by
      show Steps p.tables e below (T37.setTop (mkF m 124 #[.val (.int p1), .val (.int p2), .val (.int p3), .val (.int (1 : Int32)), .val (.int (1 : Int32)), .val (.ref b1), .val (.ref b6), .val (.ref vs), .val (.ref b17), .val (.int (1 : Int32)), .unset] [(.ref rz)])) t
      refine XS.astore X37.here hx rfl (hb hby at_124) rfl rfl (l' := #[.val (.int p1), .val (.int p2), .val (.int p3), .val (.int (1 : Int32)), .val (.int (1 : Int32)), .val (.ref b1), .val (.ref b6), .val (.ref vs), .val (.ref b17), .val (.int (1 : Int32)), .val (.ref rz)]) rfl ?_
      show Steps p.tables e below (T37.setTop (mkF m 126 #[.val (.int p1), .val (.int p2), .val (.int p3), .val (.int (1 : Int32)), .val (.int (1 : Int32)), .val (.ref b1), .val (.ref b6), .val (.ref vs), .val (.ref b17), .val (.int (1 : Int32)), .val (.ref rz)] [])) t
      refine XS.aload X37.here hx rfl (hb hby at_126) rfl rfl ?_
      show Steps p.tables e below (T37.setTop (mkF m 128 #[.val (.int p1), .val (.int p2), .val (.int p3), .val (.int (1 : Int32)), .val (.int (1 : Int32)), .val (.ref b1), .val (.ref b6), .val (.ref vs), .val (.ref b17), .val (.int (1 : Int32)), .val (.ref rz)] [(.ref rz)])) t
      exact st44.trans k)
  have ch46 : ∀ t, Steps p.tables e below (T44.setTop (mkF m 137 #[.val (.int p1), .val (.int p2), .val (.int p3), .val (.int (1 : Int32)), .val (.int (1 : Int32)), .val (.ref b1), .val (.ref b6), .val (.ref vs), .val (.ref b17), .val (.int (1 : Int32)), .val (.ref rz)] [(.int (1 : Int32))])) t → Steps p.tables e below (s₁.setTop (entryFrame m #[(.int p1), (.int p2), (.int p3)] maxLocals)) t := fun t k => ch45 t (by
      show Steps p.tables e below (T44.setTop (mkF m 131 #[.val (.int p1), .val (.int p2), .val (.int p3), .val (.int (1 : Int32)), .val (.int (1 : Int32)), .val (.ref b1), .val (.ref b6), .val (.ref vs), .val (.ref b17), .val (.int (1 : Int32)), .val (.ref rz)] [(.int (0 : Int32))])) t
      refine XS.ifYes X44.here hx rfl (pc0 := 131) (pc' := 136) rfl (hb hby at_131) rfl ((if0 _ _).trans (teq (by decide : (0 : Int32) = (0 : Int32))).1) (by decide) (by decide) ?_
      show Steps p.tables e below (T44.setTop (mkF m 136 #[.val (.int p1), .val (.int p2), .val (.int p3), .val (.int (1 : Int32)), .val (.int (1 : Int32)), .val (.ref b1), .val (.ref b6), .val (.ref vs), .val (.ref b17), .val (.int (1 : Int32)), .val (.ref rz)] [])) t
      refine XS.iconst X44.here hx rfl (hb hby at_136) ?_
      exact k)
  obtain ⟨fs, hr, hrun, hended, hend⟩ := X44.leaveW hS (by rw [e44]; exact hk) (v := some (.int (1 : Int32))) (fun h => by rw [Bd.returns] at h; cases h)
  refine ⟨_, _, ch46 _ ?_, hrun, hended, _, _, rfl, ?_, hend.1, hend.2.1, hend.2.2.1, hend.2.2.2.mono (by decide) (by decide)⟩
  · show Steps p.tables e below (T44.setTop (mkF m 137 #[.val (.int p1), .val (.int p2), .val (.int p3), .val (.int (1 : Int32)), .val (.int (1 : Int32)), .val (.ref b1), .val (.ref b6), .val (.ref vs), .val (.ref b17), .val (.int (1 : Int32)), .val (.ref rz)] [(.int (1 : Int32))])) _
    exact retN X44 hx (t := .boolean) Bd.returns (by simp) (hb hby at_137) hr
  · show QN (some (.int (1 : Int32))) n0 _ T44.heap _
    rw [e44]
    exact ⟨rfl, N44⟩
set_option maxRecDepth 65536 in
set_option maxHeartbeats 40000000 in
theorem comes_1 {Post : Tables → Env → Array Value → State → Outcome → State → Prop} (hpost : ∀ tb e args s v u, (limb_1_1.after args s (.returned v) u = true ∧ limb_1_2.after args s (.returned v) u = true ∧ True) → ReturnedEndW s (.returned v) u (Jvm.fieldLocs frame_1_writes args s ++ Jvm.arrayLocs frame_1_arrays args s ++ Jvm.staticLocs frame_1_statics s) 32 2176 → Post tb e args s (.returned v) u) :
    ArmFor flags0 classFile x code maxLocals ret World_1 tables_1 room_1 Calls_1 rest_1 Pre_1 Post := by
  intro l hfl _ _ p e ha hc hk s m args below hf hA hF happ hP
  obtain ⟨hcalls, hrest, hpre⟩ := hP
  obtain ⟨-, -, -, hnamed, -, -, -, hat⟩ := (Spec.applies_iff hf).mp happ
  obtain ⟨hg, hn⟩ := and_e (Cond.before_iff.mp (show (Jvm.Cond.and given_1 narrow_1).before args s = true from hpre))
  obtain ⟨gc, hg⟩ := and_e hg
  obtain ⟨w0, w1, w2, rfl⟩ : ∃ w0 w1 w2 : Value, args = #[w0, w1, w2] := by
    have hs : args.size = 3 := by simpa [Cond.value, given_1] using gc
    obtain ⟨L⟩ := args
    match L, hs with
    | [w0, w1, w2], _ => exact ⟨w0, w1, w2, rfl⟩
  have hw := fun d (hd : d ∈ tables_1) => atoms_spec (ws := Jvm.Cond.code x code maxLocals ret :: tables_1) hat d (List.mem_cons_of_mem _ hd)
  have hfit : Fit s := fun {y c} hc i hi => by
    obtain ⟨ha, rfl⟩ := Array.getElem?_eq_some_iff.mp hc
    have q := List.all_eq_true.mp ((Array.all_eq_true_iff_forall_mem.mp hF) _ (Array.getElem_mem ha)) i (List.mem_range.mpr hi)
    simpa [Array.getElem?_eq_getElem hi] using q
  obtain ⟨ga0, hg⟩ := and_e hg
  obtain ⟨i0, ei0⟩ := is_v ga0
  obtain rfl : w0 = (.int i0) := Option.some.inj ei0
  obtain ⟨ga1, hg⟩ := and_e hg
  obtain ⟨i1, ei1⟩ := is_v ga1
  obtain rfl : w1 = (.int i1) := Option.some.inj ei1
  obtain ⟨i2, ei2⟩ := is_v hg
  obtain rfl : w2 = (.int i2) := Option.some.inj ei2
  obtain ⟨hsets, hown0⟩ := atoms_of _ (rest_1_c_eq ▸ (show rest_1_c.before _ s = true from hrest))
  have nz3 := not_v (Cond.before_iff.mp (hsets _ (List.mem_of_getElem? (i := 2) rfl)))
  obtain ⟨zC, eC⟩ := is_v (Cond.before_iff.mp (hsets _ (List.mem_of_getElem? (i := 1) rfl)))
  have S_CS : Sta s s.heap "java/lang/String" "COMPACT_STRINGS" "Z" (.int zC) := Sta.start eC (Or.inl (hsets _ (List.mem_of_getElem? (i := 0) rfl)))
  have P5 : ¬ (zC = (0 : Int32)) := gotF (Cond.eq_ints eC (Term.int_eval (0))) nz3
  have H : MetFree l x (head1 (Jvm.Cond.code x code maxLocals ret :: tables_1) room_1) (fun a U => a = #[(.int i0), (.int i1), (.int i2)] ∧ s.Warmed39 U.vm ∧ U.heap = s.heap) (fun _ _ _ _ _ => True) (fun _ U o U' => ∃ v L, o = .returned v ∧ QN (some (.int (1 : Int32))) s.heap.size v U'.heap L ∧ ReturnedEndW U o U' L room_1.cells room_1.slots) := by
    by_cases s0 : (i0 &&& (1 : Int32)) = (0 : Int32) <;> by_cases s1 : (i0 &&& (2 : Int32)) = (0 : Int32)
    · exact own_law_00 l s _ hw tables_1 s.heap s.heap.size (Nat.le_refl _)  i0 i1 i2 s0 s1 zC S_CS P5
    · exact own_law_01 l s _ hw tables_1 s.heap s.heap.size (Nat.le_refl _)  i0 i1 i2 s0 s1 zC S_CS P5
    · exact own_law_10 l s _ hw tables_1 s.heap s.heap.size (Nat.le_refl _)  i0 i1 i2 s0 s1 zC S_CS P5
    · exact own_law_11 l s _ hw tables_1 s.heap s.heap.size (Nat.le_refl _)  i0 i1 i2 s0 s1 zC S_CS P5
  obtain ⟨n, o, h1, h2, h3, _, L, rfl, ⟨rfl, N⟩, hq⟩ := H p e ha hc hk s m _ below hf ((Spec.applies_iff_loose hf).mp happ).1 ⟨rfl, State.Warmed39.refl s, rfl⟩ trivial
  refine ⟨n, _, h1, h2, h3, hpost _ _ _ _ _ _ ⟨Cond.after_iff.mpr rfl, Cond.after_iff.mpr (eq_i res_at (Term.int_eval (1)) rfl), trivial⟩ ⟨hq.1, hq.2.1, hq.2.2.1, (hq.2.2.2.sift fun y hy => Or.inr (N y hy)).mono (by decide) (by decide)⟩⟩
theorem main_1_1 : Claimed_1_1 := comes_1 fun _ _ _ _ _ _ h hF => ⟨h.1, hF⟩
theorem main_1_2 : Claimed_1_2 := comes_1 fun _ _ _ _ _ _ h hF => ⟨h.2.1, hF⟩
end Jvm.Pilot.@@N@@
namespace Jvm.Pilot.@@N@@
open Jvm Jvm.ClassFile Sem Op Lib Jvm.Free Jvm.Stand Jvm.Pilot.@@N@@.Jvm.D
/-! MADE BY PROGRAM (witnessworld.py) out of the Statement's table words and the real class files: 21 classes; the members and pool entries that the words name. The judged class is class 1, her method 1. -/
namespace start1
open Jvm.ClassFile
def u (s : String) : CpInfo := .utf8 (stringToUtf16 s)
/-- a pool by its gaps: so many unusable entries, then the entry; so many at the end -/
def gap : Nat → List CpInfo → List CpInfo
  | 0, r => r
  | n + 1, r => .unusable :: gap n r
def poolList (es : List (Nat × CpInfo)) (last : Nat) : List CpInfo := es.foldr (fun e r => gap e.1 (e.2 :: r)) (gap last [])
def pool (es : List (Nat × CpInfo)) (last : Nat) : Array CpInfo := ⟨poolList es last⟩
def fileOf (pool : Array CpInfo) (this : Nat) (attrs : Array Attribute := #[]) (ms : Array MethodInfo := #[]) (fl : Nat := 33) (sup : Nat := 0) (ifs : Array Nat := #[]) (fds : Array FieldInfo := #[]) : ClassFile where
  minorVersion := 0
  majorVersion := 65
  constantPool := pool
  accessFlags := fl
  thisClass := this
  superClass := sup
  interfaces := ifs
  fields := fds
  methods := ms
  attributes := attrs
def plain (name : String) (sup : Option ClassId) : Class where
  name := name
  kind := .ordinary
  loader := none
  accessFlags := 33
  super := sup
  interfaces := #[]
  cf := none
  fields := #[]
  methods := #[]
  instanceTypes := #[]
  staticTypes := #[]
  resolved := #[]
  callSites := []
  init := .initialized
  statics := none
  mirror := none

def pool0 : Array CpInfo := pool [(5, u "<init>"), (0, u "()V"), (1, .class_ 10), (1, u "java/lang/Object")] 113

def k0c0 : Code := { maxStack := 0, maxLocals := 1, code := object_method_1_code, exceptionTable := #[], attributes := #[] }
def k0m0 : Method := { name := "<init>", desc := "()V", sig := { parameters := [], returnType := none }, accessFlags := 1, code := some k0c0 }
/-- java/lang/Object -/
def k0 : Class := { plain "java/lang/Object" none with
  accessFlags := 33
  interfaces := #[]
  cf := some (fileOf pool0 8 #[] #[{ accessFlags := 1, nameIndex := 5, descriptorIndex := 6, attributes := #[] }] 33 0 #[] #[])
  fields := #[]
  methods := #[k0m0]
  instanceTypes := #[]
  staticTypes := #[]
  resolved := Array.replicate 124 none
  statics := none }

def pool1 : Array CpInfo := pool [(2, .class_ 4), (1, u "java/lang/Object"), (0, u "<init>"), (0, u "()V"), (0, .class_ 8), (0, u "java/lang/String"), (0, .methodref 7 10), (0, .nameAndType 5 11), (0, u "([C)V"), (0, .methodref 7 13), (0, .nameAndType 14 15), (0, u "valueOf"), (0, u "(C)Ljava/lang/String;"), (0, .class_ 17), (0, u "com/example/nokkel/nokkel/core/ClientRecord"), (0, .methodref 16 19), (0, .nameAndType 5 20), (0, u "(Ljava/lang/String;Ljava/lang/String;ZZ)V"), (0, .methodref 16 22), (0, .nameAndType 23 24), (0, u "isMarked"), (0, u "()Z"), (0, .methodref 16 26), (0, .nameAndType 27 28), (0, u "withLocksRevoked"), (0, u "(Z)Lcom/example/nokkel/nokkel/core/ClientRecord;"), (0, .methodref 16 30), (0, .nameAndType 31 28), (0, u "withGraceMissed"), (0, .class_ 33), (0, u "com/example/nokkel/nokkel/core/ClientRecordIsMarkedPinLaw"), (2, u "law"), (0, u "(III)Z")] 5

def k1m0 : Method := { name := "<init>", desc := "()V", sig := { parameters := [], returnType := none }, accessFlags := 1, code := none }
def k1c1 : Code := { maxStack := 6, maxLocals := 11, code := code, exceptionTable := #[], attributes := #[] }
def k1m1 : Method := { name := "law", desc := "(III)Z", sig := { parameters := [.int, .int, .int], returnType := some .boolean }, accessFlags := 9, code := some k1c1 }
/-- com/example/nokkel/nokkel/core/ClientRecordIsMarkedPinLaw -/
def k1 : Class := { plain "com/example/nokkel/nokkel/core/ClientRecordIsMarkedPinLaw" (some 0) with
  accessFlags := 49
  interfaces := #[]
  cf := some (fileOf pool1 32 #[] #[{ accessFlags := 1, nameIndex := 5, descriptorIndex := 6, attributes := #[] }, { accessFlags := 9, nameIndex := 36, descriptorIndex := 37, attributes := #[] }] 49 2 #[] #[])
  fields := #[]
  methods := #[k1m0, k1m1]
  instanceTypes := #[]
  staticTypes := #[]
  resolved := Array.replicate 43 none
  statics := none }

def pool2 : Array CpInfo := pool [(1, .class_ 2), (0, u "java/io/Serializable"), (0, .class_ 4), (0, u "java/lang/Object")] 2

/-- java/io/Serializable -/
def k2 : Class := { plain "java/io/Serializable" (some 0) with
  accessFlags := 1537
  interfaces := #[]
  cf := some (fileOf pool2 1 #[] #[] 1537 3 #[] #[])
  fields := #[]
  methods := #[]
  instanceTypes := #[]
  staticTypes := #[]
  resolved := Array.replicate 7 none
  statics := none }

def pool3 : Array CpInfo := pool [(1, .class_ 2), (0, u "java/lang/Comparable"), (0, .class_ 4), (0, u "java/lang/Object")] 7

/-- java/lang/Comparable -/
def k3 : Class := { plain "java/lang/Comparable" (some 0) with
  accessFlags := 1537
  interfaces := #[]
  cf := some (fileOf pool3 1 #[] #[] 1537 3 #[] #[])
  fields := #[]
  methods := #[]
  instanceTypes := #[]
  staticTypes := #[]
  resolved := Array.replicate 12 none
  statics := none }

def pool4 : Array CpInfo := pool [(2, .class_ 4), (1, u "java/lang/CharSequence"), (42, .class_ 48), (0, u "java/lang/CharSequence$1CodePointIterator"), (10, .class_ 60), (0, u "java/lang/CharSequence$1CharIterator"), (5, .class_ 67), (0, u "java/lang/Object")] 63

/-- java/lang/CharSequence -/
def k4 : Class := { plain "java/lang/CharSequence" (some 0) with
  accessFlags := 1537
  interfaces := #[]
  cf := some (fileOf pool4 2 #[.nestMembers #[47, 59]] #[] 1537 66 #[] #[])
  fields := #[]
  methods := #[]
  instanceTypes := #[]
  staticTypes := #[]
  resolved := Array.replicate 131 none
  statics := none }

def pool5 : Array CpInfo := pool [(1, .class_ 2), (0, u "java/lang/constant/Constable"), (0, .class_ 4), (0, u "java/lang/Object")] 6

/-- java/lang/constant/Constable -/
def k5 : Class := { plain "java/lang/constant/Constable" (some 0) with
  accessFlags := 1537
  interfaces := #[]
  cf := some (fileOf pool5 1 #[] #[] 1537 3 #[] #[])
  fields := #[]
  methods := #[]
  instanceTypes := #[]
  staticTypes := #[]
  resolved := Array.replicate 11 none
  statics := none }

def pool6 : Array CpInfo := pool [(1, .class_ 2), (0, u "java/lang/constant/ConstantDesc"), (0, .class_ 4), (0, u "java/lang/Object")] 32

/-- java/lang/constant/ConstantDesc -/
def k6 : Class := { plain "java/lang/constant/ConstantDesc" (some 0) with
  accessFlags := 1537
  interfaces := #[]
  cf := some (fileOf pool6 1 #[] #[] 1537 3 #[] #[])
  fields := #[]
  methods := #[]
  instanceTypes := #[]
  staticTypes := #[]
  resolved := Array.replicate 37 none
  statics := none }

def pool7 : Array CpInfo := pool [(1, .methodref 2 3), (0, .class_ 4), (0, .nameAndType 5 6), (0, u "java/lang/Object"), (0, u "<init>"), (0, u "()V"), (2, .fieldref 10 11), (0, .class_ 12), (0, .nameAndType 13 14), (0, u "java/lang/String"), (0, u "value"), (0, u "[B"), (0, .fieldref 10 16), (0, .nameAndType 17 18), (0, u "coder"), (0, u "B"), (2, u "hash"), (0, u "I"), (2, u "hashIsZero"), (0, u "Z"), (0, .methodref 10 28), (0, .nameAndType 5 29), (0, u "([CIILjava/lang/Void;)V"), (8, .fieldref 10 39), (0, .nameAndType 40 26), (0, u "COMPACT_STRINGS"), (1, .class_ 44), (1, u "java/lang/StringUTF16"), (0, u "compress"), (1, .methodref 42 48), (0, .nameAndType 49 50), (0, u "coderFromArrayLen"), (0, u "([BI)B"), (2, u "toBytes"), (53, .class_ 109), (1, u "java/lang/StringLatin1"), (67, .methodref 42 178), (0, .nameAndType 45 179), (0, u "([CII)[B"), (29, .methodref 10 210), (0, .nameAndType 5 211), (0, u "([BB)V"), (157, u "(C)Z"), (205, .class_ 576), (0, u "java/lang/CharSequence"), (22, u "CASE_INSENSITIVE_ORDER"), (0, u "Ljava/util/Comparator;"), (181, u "valueOf"), (0, u "(C)Ljava/lang/String;"), (226, u "([C)V"), (4, .methodref 107 1016), (0, .nameAndType 1017 369), (0, u "canEncode"), (0, .methodref 107 1019), (0, .nameAndType 53 1020), (0, u "(C)[B"), (80, u "serialPersistentFields"), (0, u "[Ljava/io/ObjectStreamField;"), (0, .class_ 1104), (0, u "java/lang/String$CaseInsensitiveComparator"), (1, .class_ 1107), (0, u "java/io/Serializable"), (0, .class_ 1109), (0, u "java/lang/Comparable"), (0, .class_ 1111), (0, u "java/lang/constant/Constable"), (0, .class_ 1113), (0, u "java/lang/constant/ConstantDesc"), (2, u "serialVersionUID"), (0, u "J"), (3, u "REPL"), (0, u "C"), (2, u "LATIN1"), (1, u "UTF16")] 323

def k7m0 : Method := { name := "<init>", desc := "()V", sig := { parameters := [], returnType := none }, accessFlags := 1, code := none }
def k7c1 : Code := { maxStack := 5, maxLocals := 2, code := jdk_42_method_3_code, exceptionTable := #[], attributes := #[] }
def k7m1 : Method := { name := "<init>", desc := "([C)V", sig := { parameters := [(.array .char)], returnType := none }, accessFlags := 1, code := some k7c1 }
def k7c2 : Code := { maxStack := 4, maxLocals := 1, code := jdk_42_method_139_code, exceptionTable := #[], attributes := #[] }
def k7m2 : Method := { name := "valueOf", desc := "(C)Ljava/lang/String;", sig := { parameters := [.char], returnType := some (.object "java/lang/String") }, accessFlags := 9, code := some k7c2 }
def k7c3 : Code := { maxStack := 4, maxLocals := 6, code := jdk_42_method_149_code, exceptionTable := #[], attributes := #[] }
def k7m3 : Method := { name := "<init>", desc := "([CIILjava/lang/Void;)V", sig := { parameters := [(.array .char), .int, .int, (.object "java/lang/Void")], returnType := none }, accessFlags := 2, code := some k7c3 }
def k7c4 : Code := { maxStack := 2, maxLocals := 3, code := jdk_42_method_151_code, exceptionTable := #[], attributes := #[] }
def k7m4 : Method := { name := "<init>", desc := "([BB)V", sig := { parameters := [(.array .byte), .byte], returnType := none }, accessFlags := 0, code := some k7c4 }
/-- java/lang/String -/
def k7 : Class := { plain "java/lang/String" (some 0) with
  accessFlags := 49
  interfaces := #[2, 3, 4, 5, 6]
  cf := some (fileOf pool7 10 #[.nestMembers #[1103]] #[{ accessFlags := 1, nameIndex := 5, descriptorIndex := 6, attributes := #[] }, { accessFlags := 1, nameIndex := 5, descriptorIndex := 1010, attributes := #[] }, { accessFlags := 9, nameIndex := 782, descriptorIndex := 783, attributes := #[] }, { accessFlags := 2, nameIndex := 5, descriptorIndex := 29, attributes := #[] }, { accessFlags := 0, nameIndex := 5, descriptorIndex := 211, attributes := #[] }] 49 2 #[1106, 1108, 575, 1110, 1112] #[{ accessFlags := 18, nameIndex := 13, descriptorIndex := 14, attributes := #[] }, { accessFlags := 18, nameIndex := 17, descriptorIndex := 18, attributes := #[] }, { accessFlags := 2, nameIndex := 21, descriptorIndex := 22, attributes := #[] }, { accessFlags := 2, nameIndex := 25, descriptorIndex := 26, attributes := #[] }, { accessFlags := 26, nameIndex := 1116, descriptorIndex := 1117, attributes := #[] }, { accessFlags := 24, nameIndex := 40, descriptorIndex := 26, attributes := #[] }, { accessFlags := 26, nameIndex := 1101, descriptorIndex := 1102, attributes := #[] }, { accessFlags := 26, nameIndex := 1121, descriptorIndex := 1122, attributes := #[] }, { accessFlags := 25, nameIndex := 599, descriptorIndex := 600, attributes := #[] }, { accessFlags := 24, nameIndex := 1125, descriptorIndex := 18, attributes := #[] }, { accessFlags := 24, nameIndex := 1127, descriptorIndex := 18, attributes := #[] }])
  fields := #[{ name := "value", type := (.array .byte), accessFlags := 18, slot := 0, constantValue := 0 }, { name := "coder", type := .byte, accessFlags := 18, slot := 1, constantValue := 0 }, { name := "hash", type := .int, accessFlags := 2, slot := 2, constantValue := 0 }, { name := "hashIsZero", type := .boolean, accessFlags := 2, slot := 3, constantValue := 0 }, { name := "serialVersionUID", type := .long, accessFlags := 26, slot := 0, constantValue := 0 }, { name := "COMPACT_STRINGS", type := .boolean, accessFlags := 24, slot := 1, constantValue := 0 }, { name := "serialPersistentFields", type := (.array (.object "java/io/ObjectStreamField")), accessFlags := 26, slot := 2, constantValue := 0 }, { name := "REPL", type := .char, accessFlags := 26, slot := 3, constantValue := 0 }, { name := "CASE_INSENSITIVE_ORDER", type := (.object "java/util/Comparator"), accessFlags := 25, slot := 4, constantValue := 0 }, { name := "LATIN1", type := .byte, accessFlags := 24, slot := 5, constantValue := 0 }, { name := "UTF16", type := .byte, accessFlags := 24, slot := 6, constantValue := 0 }]
  methods := #[k7m0, k7m1, k7m2, k7m3, k7m4]
  instanceTypes := #[(.array .byte), .byte, .int, .boolean]
  staticTypes := #[.long, .boolean, (.array (.object "java/io/ObjectStreamField")), .char, (.object "java/util/Comparator"), .byte, .byte]
  resolved := Array.replicate 1451 none
  statics := some 0 }

def pool8 : Array CpInfo := pool [(6, .class_ 8), (1, u "java/lang/Object"), (0, u "<init>"), (0, u "()V"), (1, .class_ 14), (1, u "java/lang/StringUTF16"), (31, u "$assertionsDisabled"), (0, u "Z"), (13, u "HI_BYTE_SHIFT"), (0, u "I"), (2, u "LO_BYTE_SHIFT"), (49, .methodref 12 116), (0, .nameAndType 117 118), (0, u "compress"), (0, u "([CI[BII)I"), (3, u "([CII)[B"), (138, u "coderFromArrayLen"), (0, u "([BI)B"), (106, .class_ 371), (1, u "java/lang/StringUTF16$LinesSpliterator"), (58, u "MAX_LENGTH"), (196, .class_ 628), (0, u "java/lang/StringUTF16$CodePointsSpliterator"), (0, .class_ 630), (0, u "java/lang/StringUTF16$CharsSpliterator")] 4

def k8m0 : Method := { name := "<init>", desc := "()V", sig := { parameters := [], returnType := none }, accessFlags := 0, code := none }
def k8c1 : Code := { maxStack := 2, maxLocals := 2, code := jdk_52_method_15_code, exceptionTable := #[], attributes := #[] }
def k8m1 : Method := { name := "coderFromArrayLen", desc := "([BI)B", sig := { parameters := [(.array .byte), .int], returnType := some .byte }, accessFlags := 8, code := some k8c1 }
def k8c2 : Code := { maxStack := 5, maxLocals := 6, code := jdk_52_method_16_code, exceptionTable := #[], attributes := #[] }
def k8m2 : Method := { name := "compress", desc := "([CII)[B", sig := { parameters := [(.array .char), .int, .int], returnType := some (.array .byte) }, accessFlags := 9, code := some k8c2 }
def k8c3 : Code := { maxStack := 3, maxLocals := 7, code := jdk_52_method_21_code, exceptionTable := #[], attributes := #[] }
def k8m3 : Method := { name := "compress", desc := "([CI[BII)I", sig := { parameters := [(.array .char), .int, (.array .byte), .int, .int], returnType := some .int }, accessFlags := 9, code := some k8c3 }
/-- java/lang/StringUTF16 -/
def k8 : Class := { plain "java/lang/StringUTF16" (some 0) with
  accessFlags := 48
  interfaces := #[]
  cf := some (fileOf pool8 12 #[.nestMembers #[627, 629, 369]] #[{ accessFlags := 0, nameIndex := 9, descriptorIndex := 10, attributes := #[] }, { accessFlags := 8, nameIndex := 261, descriptorIndex := 262, attributes := #[] }, { accessFlags := 9, nameIndex := 117, descriptorIndex := 122, attributes := #[] }, { accessFlags := 9, nameIndex := 117, descriptorIndex := 118, attributes := #[] }] 48 6 #[] #[{ accessFlags := 26, nameIndex := 61, descriptorIndex := 62, attributes := #[] }, { accessFlags := 26, nameIndex := 65, descriptorIndex := 62, attributes := #[] }, { accessFlags := 24, nameIndex := 430, descriptorIndex := 62, attributes := #[] }, { accessFlags := 4120, nameIndex := 46, descriptorIndex := 47, attributes := #[] }])
  fields := #[{ name := "HI_BYTE_SHIFT", type := .int, accessFlags := 26, slot := 0, constantValue := 0 }, { name := "LO_BYTE_SHIFT", type := .int, accessFlags := 26, slot := 1, constantValue := 0 }, { name := "MAX_LENGTH", type := .int, accessFlags := 24, slot := 2, constantValue := 0 }, { name := "$assertionsDisabled", type := .boolean, accessFlags := 4120, slot := 3, constantValue := 0 }]
  methods := #[k8m0, k8m1, k8m2, k8m3]
  instanceTypes := #[]
  staticTypes := #[.int, .int, .int, .boolean]
  resolved := Array.replicate 635 none
  statics := none }

def pool9 : Array CpInfo := pool [(4, .class_ 6), (1, u "java/lang/Object"), (0, u "<init>"), (0, u "()V"), (5, .class_ 16), (1, u "java/lang/StringLatin1"), (73, u "canEncode"), (14, u "(C)Z"), (15, u "$assertionsDisabled"), (0, u "Z"), (98, .class_ 223), (1, u "java/lang/StringLatin1$LinesSpliterator"), (156, u "toBytes"), (1, u "(C)[B"), (7, .class_ 391), (0, u "java/lang/StringLatin1$CharsSpliterator")] 3

def k9m0 : Method := { name := "<init>", desc := "()V", sig := { parameters := [], returnType := none }, accessFlags := 0, code := none }
def k9c1 : Code := { maxStack := 2, maxLocals := 1, code := jdk_43_method_3_code, exceptionTable := #[], attributes := #[] }
def k9m1 : Method := { name := "canEncode", desc := "(C)Z", sig := { parameters := [.char], returnType := some .boolean }, accessFlags := 9, code := some k9c1 }
def k9c2 : Code := { maxStack := 4, maxLocals := 1, code := jdk_43_method_46_code, exceptionTable := #[], attributes := #[] }
def k9m2 : Method := { name := "toBytes", desc := "(C)[B", sig := { parameters := [.char], returnType := some (.array .byte) }, accessFlags := 9, code := some k9c2 }
/-- java/lang/StringLatin1 -/
def k9 : Class := { plain "java/lang/StringLatin1" (some 0) with
  accessFlags := 48
  interfaces := #[]
  cf := some (fileOf pool9 14 #[.nestMembers #[390, 221]] #[{ accessFlags := 0, nameIndex := 7, descriptorIndex := 8, attributes := #[] }, { accessFlags := 9, nameIndex := 90, descriptorIndex := 105, attributes := #[] }, { accessFlags := 9, nameIndex := 380, descriptorIndex := 382, attributes := #[] }] 48 4 #[] #[{ accessFlags := 4120, nameIndex := 121, descriptorIndex := 122, attributes := #[] }])
  fields := #[{ name := "$assertionsDisabled", type := .boolean, accessFlags := 4120, slot := 0, constantValue := 0 }]
  methods := #[k9m0, k9m1, k9m2]
  instanceTypes := #[]
  staticTypes := #[.boolean]
  resolved := Array.replicate 395 none
  statics := none }

def pool10 : Array CpInfo := pool [(1, .methodref 2 3), (0, .class_ 4), (0, .nameAndType 5 6), (0, u "com/example/nokkel/nokkel/core/ClientRecord"), (0, u "<init>"), (0, u "(Ljava/lang/String;Ljava/lang/String;ZZ)V"), (0, .methodref 8 9), (0, .class_ 10), (0, .nameAndType 5 11), (0, u "java/lang/Object"), (0, u "()V"), (0, .string 13), (0, u "owner"), (0, .methodref 15 16), (0, .class_ 17), (0, .nameAndType 18 19), (0, u "java/util/Objects"), (0, u "requireNonNull"), (0, u "(Ljava/lang/Object;Ljava/lang/String;)Ljava/lang/Object;"), (0, .class_ 21), (0, u "java/lang/String"), (0, .fieldref 2 23), (0, .nameAndType 13 24), (0, u "Ljava/lang/String;"), (0, .string 26), (0, u "verifier"), (0, .fieldref 2 28), (0, .nameAndType 26 24), (0, .fieldref 2 30), (0, .nameAndType 31 32), (0, u "locksRevoked"), (0, u "Z"), (0, .fieldref 2 34), (0, .nameAndType 35 32), (0, u "graceMissed"), (18, u "()Z"), (0, u "isMarked"), (1, u "withLocksRevoked"), (0, u "(Z)Lcom/example/nokkel/nokkel/core/ClientRecord;"), (0, u "withGraceMissed")] 4

def k10c0 : Code := { maxStack := 3, maxLocals := 5, code := prog_7_method_2_code, exceptionTable := #[], attributes := #[] }
def k10m0 : Method := { name := "<init>", desc := "(Ljava/lang/String;Ljava/lang/String;ZZ)V", sig := { parameters := [(.object "java/lang/String"), (.object "java/lang/String"), .boolean, .boolean], returnType := none }, accessFlags := 1, code := some k10c0 }
def k10c1 : Code := { maxStack := 1, maxLocals := 1, code := prog_7_method_7_code, exceptionTable := #[], attributes := #[] }
def k10m1 : Method := { name := "isMarked", desc := "()Z", sig := { parameters := [], returnType := some .boolean }, accessFlags := 1, code := some k10c1 }
def k10c2 : Code := { maxStack := 6, maxLocals := 2, code := prog_7_method_8_code, exceptionTable := #[], attributes := #[] }
def k10m2 : Method := { name := "withLocksRevoked", desc := "(Z)Lcom/example/nokkel/nokkel/core/ClientRecord;", sig := { parameters := [.boolean], returnType := some (.object "com/example/nokkel/nokkel/core/ClientRecord") }, accessFlags := 1, code := some k10c2 }
def k10c3 : Code := { maxStack := 6, maxLocals := 2, code := prog_7_method_9_code, exceptionTable := #[], attributes := #[] }
def k10m3 : Method := { name := "withGraceMissed", desc := "(Z)Lcom/example/nokkel/nokkel/core/ClientRecord;", sig := { parameters := [.boolean], returnType := some (.object "com/example/nokkel/nokkel/core/ClientRecord") }, accessFlags := 1, code := some k10c3 }
/-- com/example/nokkel/nokkel/core/ClientRecord -/
def k10 : Class := { plain "com/example/nokkel/nokkel/core/ClientRecord" (some 0) with
  accessFlags := 49
  interfaces := #[]
  cf := some (fileOf pool10 2 #[] #[{ accessFlags := 1, nameIndex := 5, descriptorIndex := 6, attributes := #[] }, { accessFlags := 1, nameIndex := 55, descriptorIndex := 54, attributes := #[] }, { accessFlags := 1, nameIndex := 57, descriptorIndex := 58, attributes := #[] }, { accessFlags := 1, nameIndex := 59, descriptorIndex := 58, attributes := #[] }] 49 8 #[] #[{ accessFlags := 18, nameIndex := 13, descriptorIndex := 24, attributes := #[] }, { accessFlags := 18, nameIndex := 26, descriptorIndex := 24, attributes := #[] }, { accessFlags := 18, nameIndex := 31, descriptorIndex := 32, attributes := #[] }, { accessFlags := 18, nameIndex := 35, descriptorIndex := 32, attributes := #[] }])
  fields := #[{ name := "owner", type := (.object "java/lang/String"), accessFlags := 18, slot := 0, constantValue := 0 }, { name := "verifier", type := (.object "java/lang/String"), accessFlags := 18, slot := 1, constantValue := 0 }, { name := "locksRevoked", type := .boolean, accessFlags := 18, slot := 2, constantValue := 0 }, { name := "graceMissed", type := .boolean, accessFlags := 18, slot := 3, constantValue := 0 }]
  methods := #[k10m0, k10m1, k10m2, k10m3]
  instanceTypes := #[(.object "java/lang/String"), (.object "java/lang/String"), .boolean, .boolean]
  staticTypes := #[]
  resolved := Array.replicate 64 none
  statics := none }

def pool11 : Array CpInfo := pool [(2, .class_ 4), (1, u "java/lang/Object"), (0, u "<init>"), (0, u "()V"), (35, .class_ 44), (1, u "java/util/Objects"), (0, u "requireNonNull"), (48, u "(Ljava/lang/Object;Ljava/lang/String;)Ljava/lang/Object;")] 89

def k11m0 : Method := { name := "<init>", desc := "()V", sig := { parameters := [], returnType := none }, accessFlags := 2, code := none }
def k11c1 : Code := { maxStack := 3, maxLocals := 2, code := jdk_31_method_11_code, exceptionTable := #[], attributes := #[] }
def k11m1 : Method := { name := "requireNonNull", desc := "(Ljava/lang/Object;Ljava/lang/String;)Ljava/lang/Object;", sig := { parameters := [(.object "java/lang/Object"), (.object "java/lang/String")], returnType := some (.object "java/lang/Object") }, accessFlags := 9, code := some k11c1 }
/-- java/util/Objects -/
def k11 : Class := { plain "java/util/Objects" (some 0) with
  accessFlags := 49
  interfaces := #[]
  cf := some (fileOf pool11 42 #[] #[{ accessFlags := 2, nameIndex := 5, descriptorIndex := 6, attributes := #[] }, { accessFlags := 9, nameIndex := 45, descriptorIndex := 94, attributes := #[] }] 49 2 #[] #[])
  fields := #[]
  methods := #[k11m0, k11m1]
  instanceTypes := #[]
  staticTypes := #[]
  resolved := Array.replicate 184 none
  statics := none }

def pool12 : Array CpInfo := pool [(2, .class_ 4), (1, u "java/lang/Object"), (0, u "<init>"), (0, u "()V"), (17, .class_ 26), (1, u "jdk/internal/util/Preconditions"), (28, .class_ 56), (0, u "jdk/internal/util/Preconditions$4"), (57, .class_ 115), (0, u "jdk/internal/util/Preconditions$1"), (7, u "SIOOBE_FORMATTER"), (0, u "Ljava/util/function/BiFunction;"), (0, .class_ 126), (0, u "jdk/internal/util/Preconditions$2"), (3, u "AIOOBE_FORMATTER"), (0, .class_ 132), (0, u "jdk/internal/util/Preconditions$3"), (3, u "IOOBE_FORMATTER")] 57

def k12m0 : Method := { name := "<init>", desc := "()V", sig := { parameters := [], returnType := none }, accessFlags := 1, code := none }
/-- jdk/internal/util/Preconditions -/
def k12 : Class := { plain "jdk/internal/util/Preconditions" (some 0) with
  accessFlags := 33
  interfaces := #[]
  cf := some (fileOf pool12 24 #[.nestMembers #[55, 131, 125, 114]] #[{ accessFlags := 1, nameIndex := 5, descriptorIndex := 6, attributes := #[] }] 33 2 #[] #[{ accessFlags := 25, nameIndex := 123, descriptorIndex := 124, attributes := #[] }, { accessFlags := 25, nameIndex := 130, descriptorIndex := 124, attributes := #[] }, { accessFlags := 25, nameIndex := 136, descriptorIndex := 124, attributes := #[] }])
  fields := #[{ name := "SIOOBE_FORMATTER", type := (.object "java/util/function/BiFunction"), accessFlags := 25, slot := 0, constantValue := 0 }, { name := "AIOOBE_FORMATTER", type := (.object "java/util/function/BiFunction"), accessFlags := 25, slot := 1, constantValue := 0 }, { name := "IOOBE_FORMATTER", type := (.object "java/util/function/BiFunction"), accessFlags := 25, slot := 2, constantValue := 0 }]
  methods := #[k12m0]
  instanceTypes := #[]
  staticTypes := #[(.object "java/util/function/BiFunction"), (.object "java/util/function/BiFunction"), (.object "java/util/function/BiFunction")]
  resolved := Array.replicate 194 none
  statics := some 1 }

def pool13 : Array CpInfo := pool [(9, u "<init>"), (6, .class_ 18), (1, u "java/lang/Object"), (0, u "()V"), (1, .class_ 23), (1, u "jdk/internal/util/ArraysSupport"), (0, u "LOG2_ARRAY_LONG_INDEX_SCALE"), (0, u "I"), (2, u "U"), (0, u "Ljdk/internal/misc/Unsafe;"), (8, u "BIG_ENDIAN"), (0, u "Z"), (8, u "LOG2_BYTE_BIT_SIZE"), (4, u "LOG2_ARRAY_INT_INDEX_SCALE"), (54, u "JLA"), (0, u "Ljdk/internal/access/JavaLangAccess;"), (11, u "LOG2_ARRAY_BOOLEAN_INDEX_SCALE"), (9, u "LOG2_ARRAY_BYTE_INDEX_SCALE"), (5, u "LOG2_ARRAY_CHAR_INDEX_SCALE"), (5, u "LOG2_ARRAY_SHORT_INDEX_SCALE"), (18, u "LOG2_ARRAY_FLOAT_INDEX_SCALE"), (24, u "LOG2_ARRAY_DOUBLE_INDEX_SCALE"), (89, u "T_BOOLEAN"), (2, u "T_CHAR"), (1, u "T_FLOAT"), (1, u "T_DOUBLE"), (1, u "T_BYTE"), (1, u "T_SHORT"), (1, u "T_INT"), (1, u "T_LONG"), (1, u "SOFT_MAX_ARRAY_LENGTH")] 83

def k13m0 : Method := { name := "<init>", desc := "()V", sig := { parameters := [], returnType := none }, accessFlags := 2, code := none }
/-- jdk/internal/util/ArraysSupport -/
def k13 : Class := { plain "jdk/internal/util/ArraysSupport" (some 0) with
  accessFlags := 33
  interfaces := #[]
  cf := some (fileOf pool13 21 #[] #[{ accessFlags := 2, nameIndex := 9, descriptorIndex := 19, attributes := #[] }] 33 16 #[] #[{ accessFlags := 24, nameIndex := 28, descriptorIndex := 29, attributes := #[] }, { accessFlags := 26, nameIndex := 38, descriptorIndex := 39, attributes := #[] }, { accessFlags := 25, nameIndex := 121, descriptorIndex := 25, attributes := #[] }, { accessFlags := 25, nameIndex := 131, descriptorIndex := 25, attributes := #[] }, { accessFlags := 25, nameIndex := 137, descriptorIndex := 25, attributes := #[] }, { accessFlags := 25, nameIndex := 143, descriptorIndex := 25, attributes := #[] }, { accessFlags := 25, nameIndex := 53, descriptorIndex := 25, attributes := #[] }, { accessFlags := 25, nameIndex := 24, descriptorIndex := 25, attributes := #[] }, { accessFlags := 25, nameIndex := 162, descriptorIndex := 25, attributes := #[] }, { accessFlags := 25, nameIndex := 187, descriptorIndex := 25, attributes := #[] }, { accessFlags := 26, nameIndex := 48, descriptorIndex := 25, attributes := #[] }, { accessFlags := 25, nameIndex := 277, descriptorIndex := 25, attributes := #[] }, { accessFlags := 25, nameIndex := 280, descriptorIndex := 25, attributes := #[] }, { accessFlags := 25, nameIndex := 282, descriptorIndex := 25, attributes := #[] }, { accessFlags := 25, nameIndex := 284, descriptorIndex := 25, attributes := #[] }, { accessFlags := 25, nameIndex := 286, descriptorIndex := 25, attributes := #[] }, { accessFlags := 25, nameIndex := 288, descriptorIndex := 25, attributes := #[] }, { accessFlags := 25, nameIndex := 290, descriptorIndex := 25, attributes := #[] }, { accessFlags := 25, nameIndex := 292, descriptorIndex := 25, attributes := #[] }, { accessFlags := 26, nameIndex := 108, descriptorIndex := 109, attributes := #[] }, { accessFlags := 25, nameIndex := 294, descriptorIndex := 25, attributes := #[] }])
  fields := #[{ name := "U", type := (.object "jdk/internal/misc/Unsafe"), accessFlags := 24, slot := 0, constantValue := 0 }, { name := "BIG_ENDIAN", type := .boolean, accessFlags := 26, slot := 1, constantValue := 0 }, { name := "LOG2_ARRAY_BOOLEAN_INDEX_SCALE", type := .int, accessFlags := 25, slot := 2, constantValue := 0 }, { name := "LOG2_ARRAY_BYTE_INDEX_SCALE", type := .int, accessFlags := 25, slot := 3, constantValue := 0 }, { name := "LOG2_ARRAY_CHAR_INDEX_SCALE", type := .int, accessFlags := 25, slot := 4, constantValue := 0 }, { name := "LOG2_ARRAY_SHORT_INDEX_SCALE", type := .int, accessFlags := 25, slot := 5, constantValue := 0 }, { name := "LOG2_ARRAY_INT_INDEX_SCALE", type := .int, accessFlags := 25, slot := 6, constantValue := 0 }, { name := "LOG2_ARRAY_LONG_INDEX_SCALE", type := .int, accessFlags := 25, slot := 7, constantValue := 0 }, { name := "LOG2_ARRAY_FLOAT_INDEX_SCALE", type := .int, accessFlags := 25, slot := 8, constantValue := 0 }, { name := "LOG2_ARRAY_DOUBLE_INDEX_SCALE", type := .int, accessFlags := 25, slot := 9, constantValue := 0 }, { name := "LOG2_BYTE_BIT_SIZE", type := .int, accessFlags := 26, slot := 10, constantValue := 0 }, { name := "T_BOOLEAN", type := .int, accessFlags := 25, slot := 11, constantValue := 0 }, { name := "T_CHAR", type := .int, accessFlags := 25, slot := 12, constantValue := 0 }, { name := "T_FLOAT", type := .int, accessFlags := 25, slot := 13, constantValue := 0 }, { name := "T_DOUBLE", type := .int, accessFlags := 25, slot := 14, constantValue := 0 }, { name := "T_BYTE", type := .int, accessFlags := 25, slot := 15, constantValue := 0 }, { name := "T_SHORT", type := .int, accessFlags := 25, slot := 16, constantValue := 0 }, { name := "T_INT", type := .int, accessFlags := 25, slot := 17, constantValue := 0 }, { name := "T_LONG", type := .int, accessFlags := 25, slot := 18, constantValue := 0 }, { name := "JLA", type := (.object "jdk/internal/access/JavaLangAccess"), accessFlags := 26, slot := 19, constantValue := 0 }, { name := "SOFT_MAX_ARRAY_LENGTH", type := .int, accessFlags := 25, slot := 20, constantValue := 0 }]
  methods := #[k13m0]
  instanceTypes := #[]
  staticTypes := #[(.object "jdk/internal/misc/Unsafe"), .boolean, .int, .int, .int, .int, .int, .int, .int, .int, .int, .int, .int, .int, .int, .int, .int, .int, .int, (.object "jdk/internal/access/JavaLangAccess"), .int]
  resolved := Array.replicate 378 none
  statics := none }

def pool14 : Array CpInfo := pool [(1, u "java/lang/Cloneable"), (0, .class_ 1), (0, u "java/lang/Object"), (0, .class_ 3)] 3

/-- java/lang/Cloneable -/
def k14 : Class := { plain "java/lang/Cloneable" (some 0) with
  accessFlags := 1537
  interfaces := #[]
  cf := some (fileOf pool14 2 #[] #[] 1537 4 #[] #[])
  fields := #[]
  methods := #[]
  instanceTypes := #[]
  staticTypes := #[]
  resolved := Array.replicate 8 none
  statics := none }

/-- the primitive byte -/
def k15 : Class := { plain "byte" none with kind := .primitive 'B', accessFlags := 0x411 }
/-- [B -/
def k16 : Class := { plain "[B" (some 0) with kind := .array 15 .byte, interfaces := #[14, 2], accessFlags := 1041 }

/-- the primitive char -/
def k17 : Class := { plain "char" none with kind := .primitive 'C', accessFlags := 0x411 }
/-- [C -/
def k18 : Class := { plain "[C" (some 0) with kind := .array 17 .char, interfaces := #[14, 2], accessFlags := 1041 }

/-- the primitive int -/
def k19 : Class := { plain "int" none with kind := .primitive 'I', accessFlags := 0x411 }
/-- [I -/
def k20 : Class := { plain "[I" (some 0) with kind := .array 19 .int, interfaces := #[14, 2], accessFlags := 1041 }

def heap : Heap := #[{ cls := 7, slots := #[.long 0, .int 1, .null, .int 0, .null, .int 0, .int 0], vm := .statics 7 },
  { cls := 12, slots := #[.null, .null, .null], vm := .statics 12 }]
def classes : Array Class := #[k0, k1, k2, k3, k4, k5, k6, k7, k8, k9, k10, k11, k12, k13, k14, k15, k16, k17, k18, k19, k20]
def interned : List (Array UInt16 × Addr) := []
def slotsUsed : Nat := 10
def theMethod : MethodId := ⟨1, 1⟩
def args0 : Array Value := #[.int 1, .int 97, .int 98]
def aboutOver (below : List Frame) : State where
  vm := { classes := classes, interned := interned.toArray }
  heap := heap
  slotsUsed := slotsUsed
  threads := #[{ frames := .invoking theMethod args0 :: below }]
def below0 : List Frame := [.native { method := ⟨0, 0⟩, args := #[] }]
def about1 : State := aboutOver below0
def p0 : Program := .bare "" "" ""
def e0 : Env := launch0.env 0 0 0
theorem w_frames : about1.frames = Frame.invoking theMethod args0 :: below0 := rfl
set_option maxRecDepth 65536 in
theorem w_args : argsFit about1.vm theMethod args0 = true := by decide +kernel
set_option maxRecDepth 65536 in
theorem w_heap : heapFits about1 = true := by decide +kernel
set_option maxRecDepth 65536 in
theorem w_runnable : about1.curStatus? = some .runnable := by decide +kernel
set_option maxRecDepth 65536 in
theorem w_alone : about1.alone = true := by decide +kernel
set_option maxRecDepth 65536 in
theorem w_named : about1.methodNamed? x = some theMethod := by decide +kernel
set_option maxRecDepth 65536 in
theorem w_hears : about1.hears theMethod below0 = true := by decide +kernel
set_option maxRecDepth 65536 in
theorem w_ripe : about1.ripe theMethod args0 below0 = true := by decide +kernel
theorem w_running : about1.status = .running := rfl
set_option maxRecDepth 65536 in
theorem w_room : about1.hasRoom e0.platform room_1 = true :=
  launch0.hasRoom_least _ room_1 (by decide +kernel) (by decide +kernel) (by decide +kernel) (by decide +kernel) (by decide +kernel) (by decide +kernel)
theorem allAtoms_all (ts : List Jvm.Cond) (a : Array Jvm.Value) (st : Jvm.State) : (allAtoms ts).before a st = ts.all (fun c => c.before a st) := by
  induction ts with
  | nil => rfl
  | cons c t ih =>
    show (Jvm.Cond.and c (allAtoms t)).before a st = _
    rw [Jvm.Cond.before_and, ih, List.all_cons]
def words1 : List Jvm.Cond := Jvm.Cond.code x code maxLocals ret :: tables_1
/-- a 'code' word, met by the world's own term for the bytes: nothing is compared byte by byte -/
theorem code_word {y : MethodName} {bytes : ByteArray} {mx : Nat} {rt : Option FieldType} {a : Array Value} {s : State} {m : MethodId} {meth : Method} {c : Code} (h1 : s.methodNamed? y = some m) (h2 : s.vm.method? m = some meth) (h3 : meth.code = some c) (h4 : c.code = bytes)
    (h5 : (c.maxLocals == mx && c.exceptionTable.isEmpty && decide (c.maxStack ≤ mostOperands) && decide (meth.sig.returnType = rt) && !meth.locks && decide (parseMethodDescriptor y.desc = some meth.sig)) = true) : (Jvm.Cond.code y bytes mx rt).before a s = true := by
  simp only [Bool.and_eq_true, beq_iff_eq, Bool.not_eq_true', decide_eq_true_eq] at h5
  obtain ⟨⟨⟨⟨⟨g1, g2⟩, g3⟩, g4⟩, g5⟩, g6⟩ := h5
  simp [Cond.before, Cond.holds, Cond.value, h1, h2, h3, h4, g1, g2, g3, g4, g5, g6]
def isCode : Jvm.Cond → Bool
  | .code _ _ _ _ => true
  | _ => false
theorem all_split {L : List Jvm.Cond} {P : Jvm.Cond → Bool} (h1 : L.all (fun c => isCode c || P c) = true) (h2 : ∀ c ∈ L.filter isCode, P c = true) : L.all P = true := by
  refine List.all_eq_true.mpr fun c hc => ?_
  have h := List.all_eq_true.mp h1 c hc
  rcases Bool.eq_false_or_eq_true (isCode c) with hi | hi
  · exact h2 c (List.mem_filter.mpr ⟨hc, hi⟩)
  · simpa [hi] using h
set_option maxRecDepth 65536 in
theorem w_c0 : (Jvm.Cond.code x code maxLocals ret).before args0 about1 = true := code_word (m := ⟨1, 1⟩) (meth := k1m1) (c := k1c1) (by decide +kernel) rfl rfl rfl (by decide +kernel)
set_option maxRecDepth 65536 in
theorem w_c1 : (Jvm.Cond.code ({ cls := "java/lang/String", name := "<init>", desc := "([C)V" } : Jvm.MethodName) jdk_42_method_3_code (2 : Nat) (Option.none : Option Jvm.ClassFile.FieldType)).before args0 about1 = true := code_word (m := ⟨7, 1⟩) (meth := k7m1) (c := k7c1) (by decide +kernel) rfl rfl rfl (by decide +kernel)
set_option maxRecDepth 65536 in
theorem w_c2 : (Jvm.Cond.code ({ cls := "java/lang/String", name := "<init>", desc := "([CIILjava/lang/Void;)V" } : Jvm.MethodName) jdk_42_method_149_code (6 : Nat) (Option.none : Option Jvm.ClassFile.FieldType)).before args0 about1 = true := code_word (m := ⟨7, 3⟩) (meth := k7m3) (c := k7c3) (by decide +kernel) rfl rfl rfl (by decide +kernel)
set_option maxRecDepth 65536 in
theorem w_c3 : (Jvm.Cond.code ({ cls := "java/lang/Object", name := "<init>", desc := "()V" } : Jvm.MethodName) object_method_1_code (1 : Nat) (Option.none : Option Jvm.ClassFile.FieldType)).before args0 about1 = true := code_word (m := ⟨0, 0⟩) (meth := k0m0) (c := k0c0) (by decide +kernel) rfl rfl rfl (by decide +kernel)
set_option maxRecDepth 65536 in
theorem w_c4 : (Jvm.Cond.code ({ cls := "java/lang/StringUTF16", name := "compress", desc := "([CII)[B" } : Jvm.MethodName) jdk_52_method_16_code (6 : Nat) (Option.some (Jvm.ClassFile.FieldType.array Jvm.ClassFile.FieldType.byte))).before args0 about1 = true := code_word (m := ⟨8, 2⟩) (meth := k8m2) (c := k8c2) (by decide +kernel) rfl rfl rfl (by decide +kernel)
set_option maxRecDepth 65536 in
theorem w_c5 : (Jvm.Cond.code ({ cls := "java/lang/StringUTF16", name := "compress", desc := "([CI[BII)I" } : Jvm.MethodName) jdk_52_method_21_code (7 : Nat) (Option.some Jvm.ClassFile.FieldType.int)).before args0 about1 = true := code_word (m := ⟨8, 3⟩) (meth := k8m3) (c := k8c3) (by decide +kernel) rfl rfl rfl (by decide +kernel)
set_option maxRecDepth 65536 in
theorem w_c6 : (Jvm.Cond.code ({ cls := "java/lang/StringUTF16", name := "coderFromArrayLen", desc := "([BI)B" } : Jvm.MethodName) jdk_52_method_15_code (2 : Nat) (Option.some Jvm.ClassFile.FieldType.byte)).before args0 about1 = true := code_word (m := ⟨8, 1⟩) (meth := k8m1) (c := k8c1) (by decide +kernel) rfl rfl rfl (by decide +kernel)
set_option maxRecDepth 65536 in
theorem w_c7 : (Jvm.Cond.code ({ cls := "java/lang/String", name := "valueOf", desc := "(C)Ljava/lang/String;" } : Jvm.MethodName) jdk_42_method_139_code (1 : Nat) (Option.some (Jvm.ClassFile.FieldType.object "java/lang/String"))).before args0 about1 = true := code_word (m := ⟨7, 2⟩) (meth := k7m2) (c := k7c2) (by decide +kernel) rfl rfl rfl (by decide +kernel)
set_option maxRecDepth 65536 in
theorem w_c8 : (Jvm.Cond.code ({ cls := "java/lang/StringLatin1", name := "canEncode", desc := "(C)Z" } : Jvm.MethodName) jdk_43_method_3_code (1 : Nat) (Option.some Jvm.ClassFile.FieldType.boolean)).before args0 about1 = true := code_word (m := ⟨9, 1⟩) (meth := k9m1) (c := k9c1) (by decide +kernel) rfl rfl rfl (by decide +kernel)
set_option maxRecDepth 65536 in
theorem w_c9 : (Jvm.Cond.code ({ cls := "java/lang/StringLatin1", name := "toBytes", desc := "(C)[B" } : Jvm.MethodName) jdk_43_method_46_code (1 : Nat) (Option.some (Jvm.ClassFile.FieldType.array Jvm.ClassFile.FieldType.byte))).before args0 about1 = true := code_word (m := ⟨9, 2⟩) (meth := k9m2) (c := k9c2) (by decide +kernel) rfl rfl rfl (by decide +kernel)
set_option maxRecDepth 65536 in
theorem w_c10 : (Jvm.Cond.code ({ cls := "java/lang/String", name := "<init>", desc := "([BB)V" } : Jvm.MethodName) jdk_42_method_151_code (3 : Nat) (Option.none : Option Jvm.ClassFile.FieldType)).before args0 about1 = true := code_word (m := ⟨7, 4⟩) (meth := k7m4) (c := k7c4) (by decide +kernel) rfl rfl rfl (by decide +kernel)
set_option maxRecDepth 65536 in
theorem w_c11 : (Jvm.Cond.code ({ cls := "com/example/nokkel/nokkel/core/ClientRecord", name := "<init>", desc := "(Ljava/lang/String;Ljava/lang/String;ZZ)V" } : Jvm.MethodName) prog_7_method_2_code (5 : Nat) (Option.none : Option Jvm.ClassFile.FieldType)).before args0 about1 = true := code_word (m := ⟨10, 0⟩) (meth := k10m0) (c := k10c0) (by decide +kernel) rfl rfl rfl (by decide +kernel)
set_option maxRecDepth 65536 in
theorem w_c12 : (Jvm.Cond.code ({ cls := "java/util/Objects", name := "requireNonNull", desc := "(Ljava/lang/Object;Ljava/lang/String;)Ljava/lang/Object;" } : Jvm.MethodName) jdk_31_method_11_code (2 : Nat) (Option.some (Jvm.ClassFile.FieldType.object "java/lang/Object"))).before args0 about1 = true := code_word (m := ⟨11, 1⟩) (meth := k11m1) (c := k11c1) (by decide +kernel) rfl rfl rfl (by decide +kernel)
set_option maxRecDepth 65536 in
theorem w_c13 : (Jvm.Cond.code ({ cls := "com/example/nokkel/nokkel/core/ClientRecord", name := "isMarked", desc := "()Z" } : Jvm.MethodName) prog_7_method_7_code (1 : Nat) (Option.some Jvm.ClassFile.FieldType.boolean)).before args0 about1 = true := code_word (m := ⟨10, 1⟩) (meth := k10m1) (c := k10c1) (by decide +kernel) rfl rfl rfl (by decide +kernel)
set_option maxRecDepth 65536 in
theorem w_c14 : (Jvm.Cond.code ({ cls := "com/example/nokkel/nokkel/core/ClientRecord", name := "withLocksRevoked", desc := "(Z)Lcom/example/nokkel/nokkel/core/ClientRecord;" } : Jvm.MethodName) prog_7_method_8_code (2 : Nat) (Option.some (Jvm.ClassFile.FieldType.object "com/example/nokkel/nokkel/core/ClientRecord"))).before args0 about1 = true := code_word (m := ⟨10, 2⟩) (meth := k10m2) (c := k10c2) (by decide +kernel) rfl rfl rfl (by decide +kernel)
set_option maxRecDepth 65536 in
theorem w_c15 : (Jvm.Cond.code ({ cls := "com/example/nokkel/nokkel/core/ClientRecord", name := "withGraceMissed", desc := "(Z)Lcom/example/nokkel/nokkel/core/ClientRecord;" } : Jvm.MethodName) prog_7_method_9_code (2 : Nat) (Option.some (Jvm.ClassFile.FieldType.object "com/example/nokkel/nokkel/core/ClientRecord"))).before args0 about1 = true := code_word (m := ⟨10, 3⟩) (meth := k10m3) (c := k10c3) (by decide +kernel) rfl rfl rfl (by decide +kernel)
def codes1 : List Jvm.Cond := [Jvm.Cond.code x code maxLocals ret, Jvm.Cond.code ({ cls := "java/lang/String", name := "<init>", desc := "([C)V" } : Jvm.MethodName) jdk_42_method_3_code (2 : Nat) (Option.none : Option Jvm.ClassFile.FieldType), Jvm.Cond.code ({ cls := "java/lang/String", name := "<init>", desc := "([CIILjava/lang/Void;)V" } : Jvm.MethodName) jdk_42_method_149_code (6 : Nat) (Option.none : Option Jvm.ClassFile.FieldType), Jvm.Cond.code ({ cls := "java/lang/Object", name := "<init>", desc := "()V" } : Jvm.MethodName) object_method_1_code (1 : Nat) (Option.none : Option Jvm.ClassFile.FieldType), Jvm.Cond.code ({ cls := "java/lang/StringUTF16", name := "compress", desc := "([CII)[B" } : Jvm.MethodName) jdk_52_method_16_code (6 : Nat) (Option.some (Jvm.ClassFile.FieldType.array Jvm.ClassFile.FieldType.byte)), Jvm.Cond.code ({ cls := "java/lang/StringUTF16", name := "compress", desc := "([CI[BII)I" } : Jvm.MethodName) jdk_52_method_21_code (7 : Nat) (Option.some Jvm.ClassFile.FieldType.int), Jvm.Cond.code ({ cls := "java/lang/StringUTF16", name := "coderFromArrayLen", desc := "([BI)B" } : Jvm.MethodName) jdk_52_method_15_code (2 : Nat) (Option.some Jvm.ClassFile.FieldType.byte), Jvm.Cond.code ({ cls := "java/lang/String", name := "valueOf", desc := "(C)Ljava/lang/String;" } : Jvm.MethodName) jdk_42_method_139_code (1 : Nat) (Option.some (Jvm.ClassFile.FieldType.object "java/lang/String")), Jvm.Cond.code ({ cls := "java/lang/StringLatin1", name := "canEncode", desc := "(C)Z" } : Jvm.MethodName) jdk_43_method_3_code (1 : Nat) (Option.some Jvm.ClassFile.FieldType.boolean), Jvm.Cond.code ({ cls := "java/lang/StringLatin1", name := "toBytes", desc := "(C)[B" } : Jvm.MethodName) jdk_43_method_46_code (1 : Nat) (Option.some (Jvm.ClassFile.FieldType.array Jvm.ClassFile.FieldType.byte)), Jvm.Cond.code ({ cls := "java/lang/String", name := "<init>", desc := "([BB)V" } : Jvm.MethodName) jdk_42_method_151_code (3 : Nat) (Option.none : Option Jvm.ClassFile.FieldType), Jvm.Cond.code ({ cls := "com/example/nokkel/nokkel/core/ClientRecord", name := "<init>", desc := "(Ljava/lang/String;Ljava/lang/String;ZZ)V" } : Jvm.MethodName) prog_7_method_2_code (5 : Nat) (Option.none : Option Jvm.ClassFile.FieldType), Jvm.Cond.code ({ cls := "java/util/Objects", name := "requireNonNull", desc := "(Ljava/lang/Object;Ljava/lang/String;)Ljava/lang/Object;" } : Jvm.MethodName) jdk_31_method_11_code (2 : Nat) (Option.some (Jvm.ClassFile.FieldType.object "java/lang/Object")), Jvm.Cond.code ({ cls := "com/example/nokkel/nokkel/core/ClientRecord", name := "isMarked", desc := "()Z" } : Jvm.MethodName) prog_7_method_7_code (1 : Nat) (Option.some Jvm.ClassFile.FieldType.boolean), Jvm.Cond.code ({ cls := "com/example/nokkel/nokkel/core/ClientRecord", name := "withLocksRevoked", desc := "(Z)Lcom/example/nokkel/nokkel/core/ClientRecord;" } : Jvm.MethodName) prog_7_method_8_code (2 : Nat) (Option.some (Jvm.ClassFile.FieldType.object "com/example/nokkel/nokkel/core/ClientRecord")), Jvm.Cond.code ({ cls := "com/example/nokkel/nokkel/core/ClientRecord", name := "withGraceMissed", desc := "(Z)Lcom/example/nokkel/nokkel/core/ClientRecord;" } : Jvm.MethodName) prog_7_method_9_code (2 : Nat) (Option.some (Jvm.ClassFile.FieldType.object "com/example/nokkel/nokkel/core/ClientRecord"))]
set_option maxRecDepth 65536 in
theorem codes_eq : words1.filter isCode = codes1 := rfl
theorem w_codes : ∀ c ∈ words1.filter isCode, c.before args0 about1 = true := by
  rw [codes_eq]
  intro c hc
  simp only [codes1, List.mem_cons, List.not_mem_nil, or_false] at hc
  rcases hc with rfl | rfl | rfl | rfl | rfl | rfl | rfl | rfl | rfl | rfl | rfl | rfl | rfl | rfl | rfl | rfl
  · exact w_c0
  · exact w_c1
  · exact w_c2
  · exact w_c3
  · exact w_c4
  · exact w_c5
  · exact w_c6
  · exact w_c7
  · exact w_c8
  · exact w_c9
  · exact w_c10
  · exact w_c11
  · exact w_c12
  · exact w_c13
  · exact w_c14
  · exact w_c15
set_option maxRecDepth 65536 in
theorem w_t1 : (words1.take 24).all (fun c => isCode c || c.before args0 about1) = true := by decide +kernel
set_option maxRecDepth 65536 in
theorem w_t2 : ((words1.drop 24).take 24).all (fun c => isCode c || c.before args0 about1) = true := by decide +kernel
set_option maxRecDepth 65536 in
theorem w_t3 : (((words1.drop 24).drop 24).take 24).all (fun c => isCode c || c.before args0 about1) = true := by decide +kernel
set_option maxRecDepth 65536 in
theorem w_t4 : (((words1.drop 24).drop 24).drop 24).all (fun c => isCode c || c.before args0 about1) = true := by decide +kernel
theorem w_tables : (allAtoms (Jvm.Cond.code x code maxLocals ret :: tables_1)).before args0 about1 = true := by
  rw [allAtoms_all]
  show words1.all (fun c => c.before args0 about1) = true
  refine all_split ?_ w_codes
  rw [← List.take_append_drop 24 words1, List.all_append, w_t1, ← List.take_append_drop 24 (words1.drop 24), List.all_append, w_t2, ← List.take_append_drop 24 ((words1.drop 24).drop 24), List.all_append, w_t3, w_t4]
  rfl
set_option maxRecDepth 65536 in
theorem w_rest : rest_1_c.before args0 about1 = true := by decide +kernel
set_option maxRecDepth 65536 in
theorem w_case : (Jvm.Cond.and given_1 narrow_1).before args0 about1 = true := by decide +kernel
theorem w_applies : (headSpec (Jvm.Cond.code x code maxLocals ret :: tables_1) room_1).applies x e0.platform about1 = true :=
  (Spec.applies_iff w_frames).mpr ⟨w_running, w_runnable, w_alone, w_named, w_hears, w_ripe, w_room, w_tables⟩
theorem atStart : AtStart classFile x code maxLocals ret World_1 tables_1 room_1 Calls_1 rest_1 Pre_1 launch0 p0 e0 about1 theMethod args0 below0 :=
  ⟨lists_1, trivial, launch0.admits_env _ _ _, launch0.least_env, fairChoices_fair.cas, fairChoices_fair.clock, w_frames, w_args, w_heap, w_applies, trivial, w_rest, w_case⟩
end start1
theorem witness_1 : WitnessClaimed_1 := ⟨start1.p0, start1.e0, start1.about1, start1.theMethod, start1.args0, start1.below0, start1.atStart⟩
end Jvm.Pilot.@@N@@
