import JvmDerived
import JvmDerived.Pilot.@@N@@Statement
import JvmDerived.Pilot.@@N@@Code
set_option linter.unusedVariables false
set_option linter.unusedSimpArgs false
/- laws to paste: Road.backV, Road.codOf, lo8_inj (cut by pick.py; bodies as the Statement names them) -/
namespace Jvm.Pilot.@@N@@
namespace StrChars
open Jvm Sem ClassFile Op Lib Jvm.Stand Jvm.Free.XT Jvm.Free.ALB Jvm.Free.JM Jvm.Free
open Jvm.Lib.Cold (StaticIs)
/-- a char array whose places are chars -/
def Ch (a : Addr) (A : Cell) (U : State) : Prop := Arr .char a A U ∧ Typed .char A
theorem Ch.mv {a : Addr} {A : Cell} {U U' : State} (h : Ch a A U) (hal : U.vm.Alike U'.vm) (hh : U'.heap = U.heap) : Ch a A U' := ⟨h.1.mv hal hh, h.2⟩
theorem Ch.keep {a : Addr} {A : Cell} {U U' : State} (h : Ch a A U) (hal : U.vm.Alike U'.vm) (hk : U'.heap[a]? = some A) : Ch a A U' := ⟨h.1.keep hal hk, h.2⟩
/-- what place i of a char[]'s cell holds -/
def cv (A : Cell) (i : Nat) : Int32 := match A.slots[i]? with | some (.int x) => x | _ => 0
theorem Ch.get {a : Addr} {A : Cell} {U : State} (h : Ch a A U) {i : Nat} (hi : i < A.slots.size) : A.slots[i]? = some (.int (cv A i)) := by
  have e := Array.getElem?_eq_getElem hi
  have f := h.2 i _ e
  unfold cv; rw [e]
  generalize A.slots[i] = v at f
  cases v <;> simp [fits] at f ⊢
/-- the byte that i2b leaves of a char -/
def lo8 (x : Int32) : Int32 := x.toInt8.toInt32
theorem fits_lo8 (y : Int32) : fits .byte (.int (lo8 y)) = true := by
  have h1 := y.toInt8.le_toInt
  have h2 := y.toInt8.toInt_lt
  simp only [lo8, fits, Bool.and_eq_true, decide_eq_true_eq, Int32.le_iff_toInt_le, Int8.toInt_toInt32, show (-128 : Int32).toInt = -128 from by decide, show (127 : Int32).toInt = 127 from by decide]
  omega
/-- A' is A but that each place j of lo .. hi - 1 holds f j -/
def Laid (A A' : Cell) (lo hi : Nat) (f : Nat → Value) : Prop := A'.cls = A.cls ∧ A'.vm = A.vm ∧ A'.slots.size = A.slots.size ∧ ∀ i, A'.slots[i]? = if lo ≤ i ∧ i < hi then some (f i) else A.slots[i]?
theorem Laid.zero (A : Cell) (lo : Nat) (f : Nat → Value) : Laid A A lo (lo + 0) f := ⟨rfl, rfl, rfl, fun i => by rw [if_neg (by omega)]⟩
theorem Laid.step {A Ak : Cell} {lo k : Nat} {f : Nat → Value} {v : Value} (h : Laid A Ak lo k f) (hlo : lo ≤ k) (hk : k < Ak.slots.size) (hv : v = f k) : Laid A (Ak.setSlot k v) lo (k + 1) f := by
  refine ⟨h.1, h.2.1, by simpa [Cell.setSlot] using h.2.2.1, fun i => ?_⟩
  by_cases e : k = i
  · subst e; rw [Cell.slots_setSlot_self v hk, if_pos (by omega), hv]
  · rw [Cell.slots_setSlot_ne v e, h.2.2.2 i]
    by_cases q : lo ≤ i ∧ i < k
    · rw [if_pos q, if_pos (by omega)]
    · rw [if_neg q, if_neg (by omega)]
def U16 : String := "java/lang/StringUTF16"
namespace Cmp5
def yN : MethodName := ⟨"java/lang/StringUTF16", "compress", "([CI[BII)I"⟩
abbrev yB : ByteArray := jdk_52_method_21_code
theorem d0 : decode yB 0 = .ok (.iconst 0, 1) := by decide +kernel
theorem d1 : decode yB 1 = .ok (.istore 5, 2) := by decide +kernel
theorem d3 : decode yB 3 = .ok (.iload 5, 2) := by decide +kernel
theorem d5 : decode yB 5 = .ok (.iload 4, 2) := by decide +kernel
theorem d7 : decode yB 7 = .ok (.if_icmp (.ge) 37, 3) := by decide +kernel
theorem d10 : decode yB 10 = .ok (.aload_n 0, 1) := by decide +kernel
theorem d11 : decode yB 11 = .ok (.iload_n 1, 1) := by decide +kernel
theorem d12 : decode yB 12 = .ok (.caload, 1) := by decide +kernel
theorem d13 : decode yB 13 = .ok (.istore 6, 2) := by decide +kernel
theorem d15 : decode yB 15 = .ok (.iload 6, 2) := by decide +kernel
theorem d17 : decode yB 17 = .ok (.sipush 255, 3) := by decide +kernel
theorem d20 : decode yB 20 = .ok (.if_icmp (.le) 6, 3) := by decide +kernel
theorem d26 : decode yB 26 = .ok (.aload_n 2, 1) := by decide +kernel
theorem d27 : decode yB 27 = .ok (.iload_n 3, 1) := by decide +kernel
theorem d28 : decode yB 28 = .ok (.iload 6, 2) := by decide +kernel
theorem d30 : decode yB 30 = .ok (.i2b, 1) := by decide +kernel
theorem d31 : decode yB 31 = .ok (.bastore, 1) := by decide +kernel
theorem d32 : decode yB 32 = .ok (.iinc 1 1, 3) := by decide +kernel
theorem d35 : decode yB 35 = .ok (.iinc 3 1, 3) := by decide +kernel
theorem d38 : decode yB 38 = .ok (.iinc 5 1, 3) := by decide +kernel
theorem d41 : decode yB 41 = .ok (.goto (-38), 3) := by decide +kernel
theorem d44 : decode yB 44 = .ok (.iload 4, 2) := by decide +kernel
theorem d46 : decode yB 46 = .ok (.ireturn, 1) := by decide +kernel
def site : List Cond := []
def tab : Cond := tabOf yN yB 7 (some .int) site
def P (b : Addr) (A : Cell) (d : Addr) (B : Cell) (o q len : Nat) (args : Array Value) (s : State) : Prop := args = #[.ref b, .int (Int32.ofNat o), .ref d, .int (Int32.ofNat q), .int (Int32.ofNat len)] ∧ Ch b A s ∧ Arr .byte d B s ∧ b ≠ d ∧ o + len ≤ A.slots.size ∧ q + len ≤ B.slots.size ∧ ∀ i, i < len → ¬ 255 < cv A (o + i)
def E (b : Addr) (A : Cell) (d : Addr) (B : Cell) (o q len : Nat) (r : Option Value) (s u : State) : Prop := r = some (.int (Int32.ofNat len)) ∧ ∃ B', Put d B' s u ∧ Laid B B' q (q + len) (fun j => Value.int (lo8 (cv A (o + (j - q)))))
/-- no char of the range above 255: len; the places written hold each char's low byte -/
theorem law (l : Launch) (b : Addr) (A : Cell) (d : Addr) (B : Cell) (o q len : Nat) : Law l yN 5 5 0 0 yB 7 (some .int) site (P b A d B o q len) (E b A d B o q len) (copyLocs d q len) 0 0 := by
  refine Law.of_walk (plainFor_of_name (by decide +kernel)) (by decide +kernel) (by decide +kernel) (by decide) (fun _ _ h => by rw [h.1]; rfl) (fun _ U U' hal hh h => ⟨h.1, h.2.1.mv hal hh, h.2.2.1.mv hal hh, h.2.2.2⟩) (fun r U U' V V' h1 hal h2 h => ⟨h.1, h.2.elim fun B' q => ⟨B', q.1.mv h1 h2, q.2⟩⟩) ?_
  intro p e s m args below meth c s₁ X0 hexec hbytes hml hret hlk hnm hown hh0 W hP
  obtain ⟨rfl, hA, hB, hne, l1, l2, hp⟩ := hP
  have c1 : Steps p.tables e below (s₁.setTop (entryFrame m #[.ref b, .int (Int32.ofNat o), .ref d, .int (Int32.ofNat q), .int (Int32.ofNat len)] 7)) (s₁.setTop (mkF m 0 #[.val (.ref b), .val (.int (Int32.ofNat o)), .val (.ref d), .val (.int (Int32.ofNat q)), .val (.int (Int32.ofNat len)), .unset, .unset] [])) := entry rfl
  have hA0 := hA.1.mv X0.warmed.alike hh0
  have hB0 := hB.mv X0.warmed.alike hh0
  have a31 := hA.1.2.2.2
  have c2 : Steps p.tables e below (s₁.setTop (entryFrame m #[.ref b, .int (Int32.ofNat o), .ref d, .int (Int32.ofNat q), .int (Int32.ofNat len)] 7)) (s₁.setTop (mkF m 3 #[.val (.ref b), .val (.int (Int32.ofNat o)), .val (.ref d), .val (.int (Int32.ofNat q)), .val (.int (Int32.ofNat len)), .val (.int 0), .unset] [])) := c1.trans (by
    refine iconstV X0.here hexec rfl 0 (hb hbytes d0) (by decide) ?_
    refine XS.istore X0.here hexec rfl (hb hbytes d1) rfl rfl ?_
    exact Steps.refl _)
  have loop : ∀ (r i : Nat), i + r = len → ∀ (z : Slot), (z = .unset ∨ ∃ w, z = .val w ∧ w.category = 1) → ∀ (Tl : State) (Bk : Cell), Stand p l e { frames := 0, locals := 0, cells := 0, slots := 0 } s m #[.ref b, .int (Int32.ofNat o), .ref d, .int (Int32.ofNat q), .int (Int32.ofNat len)] below meth c Tl ([] ++ copyLocs d q i) 0 0 → Put d Bk s₁ Tl → Laid B Bk q (q + i) (fun j => Value.int (lo8 (cv A (o + (j - q))))) →
      Steps p.tables e below (s₁.setTop (entryFrame m #[.ref b, .int (Int32.ofNat o), .ref d, .int (Int32.ofNat q), .int (Int32.ofNat len)] 7)) (Tl.setTop (mkF m 3 #[.val (.ref b), .val (.int (Int32.ofNat (o + i))), .val (.ref d), .val (.int (Int32.ofNat (q + i))), .val (.int (Int32.ofNat len)), .val (.int (Int32.ofNat i)), z] [])) → ∃ (T' : State) (B' : Cell) (z' : Slot), Stand p l e { frames := 0, locals := 0, cells := 0, slots := 0 } s m #[.ref b, .int (Int32.ofNat o), .ref d, .int (Int32.ofNat q), .int (Int32.ofNat len)] below meth c T' ([] ++ copyLocs d q len) 0 0 ∧ Put d B' s₁ T' ∧ Laid B B' q (q + len) (fun j => Value.int (lo8 (cv A (o + (j - q))))) ∧
      Steps p.tables e below (s₁.setTop (entryFrame m #[.ref b, .int (Int32.ofNat o), .ref d, .int (Int32.ofNat q), .int (Int32.ofNat len)] 7)) (T'.setTop (mkF m 3 #[.val (.ref b), .val (.int (Int32.ofNat (o + len))), .val (.ref d), .val (.int (Int32.ofNat (q + len))), .val (.int (Int32.ofNat len)), .val (.int (Int32.ofNat len)), z'] [])) := by
    intro r
    induction r with
    | zero =>
      intro i hi z hz Tl Bk Xl pl fl cl
      have hil : i = len := by omega
      rw [hil] at Xl fl cl
      exact ⟨Tl, Bk, z, Xl, pl, fl, cl⟩
    | succ r ih =>
      intro i hi z hz Tl Bk Xl pl fl cl
      have all := X0.warmed.alike.symm.trans Xl.warmed.alike
      have hAl := hA0.keep all (pl.other hne hA0.1)
      have hBk := hB0.like all pl.1 fl.1 fl.2.1 fl.2.2.1
      have hlt : q + i < Bk.slots.size := by rw [fl.2.2.1]; omega
      have c3 : Steps p.tables e below (s₁.setTop (entryFrame m #[.ref b, .int (Int32.ofNat o), .ref d, .int (Int32.ofNat q), .int (Int32.ofNat len)] 7)) (Tl.setTop (mkF m 12 #[.val (.ref b), .val (.int (Int32.ofNat (o + i))), .val (.ref d), .val (.int (Int32.ofNat (q + i))), .val (.int (Int32.ofNat len)), .val (.int (Int32.ofNat i)), z] [.int (Int32.ofNat (o + i)), .ref b])) := cl.trans (by
        refine XS.iload Xl.here hexec rfl (hb hbytes d3) rfl ?_
        refine XS.iload Xl.here hexec rfl (hb hbytes d5) rfl ?_
        refine XS.icmpNo Xl.here hexec rfl (hb hbytes d7) rfl (ii_ge_f (lt32 (by omega) (by omega))) ?_
        refine XS.aloadN Xl.here hexec rfl (hb hbytes d10) rfl rfl ?_
        refine XS.iloadN Xl.here hexec rfl (hb hbytes d11) rfl ?_
        exact Steps.refl _)
      have c4 : Steps p.tables e below (s₁.setTop (entryFrame m #[.ref b, .int (Int32.ofNat o), .ref d, .int (Int32.ofNat q), .int (Int32.ofNat len)] 7)) (Tl.setTop (mkF m 13 #[.val (.ref b), .val (.int (Int32.ofNat (o + i))), .val (.ref d), .val (.int (Int32.ofNat (q + i))), .val (.int (Int32.ofNat len)), .val (.int (Int32.ofNat i)), z] [.int (cv A (o + i))])) := c3.trans (by
        refine Xl.aget hexec hAl rfl (hA.get (i := o + i) (by omega)) rfl rfl (hb hbytes d12) ?_
        exact Steps.refl _)
      have c5 : Steps p.tables e below (s₁.setTop (entryFrame m #[.ref b, .int (Int32.ofNat o), .ref d, .int (Int32.ofNat q), .int (Int32.ofNat len)] 7)) (Tl.setTop (mkF m 15 #[.val (.ref b), .val (.int (Int32.ofNat (o + i))), .val (.ref d), .val (.int (Int32.ofNat (q + i))), .val (.int (Int32.ofNat len)), .val (.int (Int32.ofNat i)), .val (.int (cv A (o + i)))] [])) := c4.trans (by
        refine XS.istoreS Xl.here hexec rfl (hb hbytes d13) rfl rfl hz ?_
        exact Steps.refl _)
      have c6 : Steps p.tables e below (s₁.setTop (entryFrame m #[.ref b, .int (Int32.ofNat o), .ref d, .int (Int32.ofNat q), .int (Int32.ofNat len)] 7)) (Tl.setTop (mkF m 31 #[.val (.ref b), .val (.int (Int32.ofNat (o + i))), .val (.ref d), .val (.int (Int32.ofNat (q + i))), .val (.int (Int32.ofNat len)), .val (.int (Int32.ofNat i)), .val (.int (cv A (o + i)))] [.int (lo8 (cv A (o + i))), .int (Int32.ofNat (q + i)), .ref d])) := c5.trans (by
        refine XS.iload Xl.here hexec rfl (hb hbytes d15) rfl ?_
        refine sipushV Xl.here hexec rfl 255 (hb hbytes d17) (by decide) ?_
        refine XS.icmpYes Xl.here hexec rfl (pc0 := 20) rfl (hb hbytes d20) rfl (ii_le_t (hp i (by omega))) (by decide) rfl ?_
        refine XS.aloadN Xl.here hexec rfl (hb hbytes d26) rfl rfl ?_
        refine XS.iloadN Xl.here hexec rfl (hb hbytes d27) rfl ?_
        refine XS.iload Xl.here hexec rfl (hb hbytes d28) rfl ?_
        refine i2b Xl.here hexec rfl (hb hbytes d30) rfl ?_
        exact Steps.refl _)
      obtain ⟨T7, X7, p7, st7⟩ := Xl.aput hexec hBk rfl hlt rfl (fits_lo8 (cv A (o + i))) (g := (mkF m 31 #[.val (.ref b), .val (.int (Int32.ofNat (o + i))), .val (.ref d), .val (.int (Int32.ofNat (q + i))), .val (.int (Int32.ofNat len)), .val (.int (Int32.ofNat i)), .val (.int (cv A (o + i)))] [.int (lo8 (cv A (o + i))), .int (Int32.ofNat (q + i)), .ref d])) rfl (rest := []) rfl (hb hbytes d31)
      have c8 : Steps p.tables e below (s₁.setTop (entryFrame m #[.ref b, .int (Int32.ofNat o), .ref d, .int (Int32.ofNat q), .int (Int32.ofNat len)] 7)) (T7.setTop (mkF m 32 #[.val (.ref b), .val (.int (Int32.ofNat (o + i))), .val (.ref d), .val (.int (Int32.ofNat (q + i))), .val (.int (Int32.ofNat len)), .val (.int (Int32.ofNat i)), .val (.int (cv A (o + i)))] [])) := c6.trans (st7 _ (Steps.refl _))
      have c9 : Steps p.tables e below (s₁.setTop (entryFrame m #[.ref b, .int (Int32.ofNat o), .ref d, .int (Int32.ofNat q), .int (Int32.ofNat len)] 7)) (T7.setTop (mkF m 3 #[.val (.ref b), .val (.int (Int32.ofNat (o + i) + 1)), .val (.ref d), .val (.int (Int32.ofNat (q + i) + 1)), .val (.int (Int32.ofNat len)), .val (.int (Int32.ofNat i + 1)), .val (.int (cv A (o + i)))] [])) := c8.trans (by
        refine iincV X7.here hexec rfl 1 (hb hbytes d32) (by decide) rfl rfl ?_
        refine iincV X7.here hexec rfl 1 (hb hbytes d35) (by decide) rfl rfl ?_
        refine iincV X7.here hexec rfl 1 (hb hbytes d38) (by decide) rfl rfl ?_
        refine XS.goto X7.here hexec rfl (pc0 := 41) rfl (hb hbytes d41) (by decide) rfl ?_
        exact Steps.refl _)
      have c10 : Steps p.tables e below (s₁.setTop (entryFrame m #[.ref b, .int (Int32.ofNat o), .ref d, .int (Int32.ofNat q), .int (Int32.ofNat len)] 7)) (T7.setTop (mkF m 3 #[.val (.ref b), .val (.int (Int32.ofNat (o + (i + 1)))), .val (.ref d), .val (.int (Int32.ofNat (q + (i + 1)))), .val (.int (Int32.ofNat len)), .val (.int (Int32.ofNat (i + 1))), .val (.int (cv A (o + i)))] [])) := by
        have := c9
        rw [succ32, succ32, succ32] at this
        exact this
      exact ih (i + 1) (by omega) _ (Or.inr ⟨_, rfl, rfl⟩) T7 _ (by rw [copyLocs_step, ← List.append_assoc]; exact X7) (pl.trans p7) (fl.step (by omega) hlt (by simp)) c10
  obtain ⟨T9, B9, z9, X9, p9, f9, g9⟩ := loop len 0 (by omega) .unset (Or.inl rfl) s₁ B (by simpa [copyLocs] using X0) ⟨hB0.1, fun _ _ => rfl, rfl⟩ (Laid.zero _ _ _) c2
  have c11 : Steps p.tables e below (s₁.setTop (entryFrame m #[.ref b, .int (Int32.ofNat o), .ref d, .int (Int32.ofNat q), .int (Int32.ofNat len)] 7)) (T9.setTop (mkF m 46 #[.val (.ref b), .val (.int (Int32.ofNat (o + len))), .val (.ref d), .val (.int (Int32.ofNat (q + len))), .val (.int (Int32.ofNat len)), .val (.int (Int32.ofNat len)), z9] [.int (Int32.ofNat len)])) := g9.trans (by
    refine XS.iload X9.here hexec rfl (hb hbytes d3) rfl ?_
    refine XS.iload X9.here hexec rfl (hb hbytes d5) rfl ?_
    refine XS.icmpYes X9.here hexec rfl (pc0 := 7) rfl (hb hbytes d7) rfl (ii_ge_t (nlt32 (by omega) (Nat.le_refl _))) (by decide) rfl ?_
    refine XS.iload X9.here hexec rfl (hb hbytes d44) rfl ?_
    exact Steps.refl _)
  exact ⟨T9, some (.int (Int32.ofNat len)), _, _, _, X9, by simp, rfl, rfl, (fun h => by cases h), ⟨rfl, B9, p9.from hh0, f9⟩, fun fs hl => c11.trans (X9.ireturnOut hexec hret rfl (Or.inl rfl) (hb hbytes d46) hl)⟩
end Cmp5
namespace Cmp3
def yN : MethodName := ⟨"java/lang/StringUTF16", "compress", "([CII)[B"⟩
abbrev yB : ByteArray := jdk_52_method_16_code
theorem d0 : decode yB 0 = .ok (.iload_n 2, 1) := by decide +kernel
theorem d1 : decode yB 1 = .ok (.newarray .byte, 2) := by decide +kernel
theorem d3 : decode yB 3 = .ok (.astore_n 3, 1) := by decide +kernel
theorem d4 : decode yB 4 = .ok (.aload_n 0, 1) := by decide +kernel
theorem d5 : decode yB 5 = .ok (.iload_n 1, 1) := by decide +kernel
theorem d6 : decode yB 6 = .ok (.aload_n 3, 1) := by decide +kernel
theorem d7 : decode yB 7 = .ok (.iconst 0, 1) := by decide +kernel
theorem d8 : decode yB 8 = .ok (.iload_n 2, 1) := by decide +kernel
theorem d9 : decode yB 9 = .ok (.invokestatic 115, 3) := by decide +kernel
theorem d12 : decode yB 12 = .ok (.istore 4, 2) := by decide +kernel
theorem d14 : decode yB 14 = .ok (.iload 4, 2) := by decide +kernel
theorem d16 : decode yB 16 = .ok (.iload_n 2, 1) := by decide +kernel
theorem d17 : decode yB 17 = .ok (.if_icmp (.eq) 40, 3) := by decide +kernel
theorem d57 : decode yB 57 = .ok (.aload_n 3, 1) := by decide +kernel
theorem d58 : decode yB 58 = .ok (.areturn, 1) := by decide +kernel
def site : List Cond := [.arrayClass .byte, Cmp5.tab] ++ staticW U16 115 Cmp5.yN
def tab : Cond := tabOf yN yB 6 (some (.array .byte)) site
def P (b : Addr) (A : Cell) (o len : Nat) (args : Array Value) (s : State) : Prop := args = #[.ref b, .int (Int32.ofNat o), .int (Int32.ofNat len)] ∧ Ch b A s ∧ o + len ≤ A.slots.size ∧ len ≤ 536870912 ∧ ∀ i, i < len → ¬ 255 < cv A (o + i)
def E (b : Addr) (A : Cell) (o len : Nat) (r : Option Value) (s u : State) : Prop := NewArr .byte "[B" len (fun j => .int (lo8 (cv A (o + j)))) r s u ∧ u.heap.size = s.heap.size + 1
/-- no char of the range above 255: a new byte[] of their low bytes -/
theorem law (l : Launch) (b : Addr) (A : Cell) (o len : Nat) : Law l yN 3 3 1 18 yB 6 (some (.array .byte)) site (P b A o len) (E b A o len) [] 1 len := by
  refine Law.of_walk (plainFor_of_name (by decide +kernel)) (by decide +kernel) (by decide +kernel) (by decide) (fun _ _ h => by rw [h.1]; rfl) (fun _ U U' hal hh h => ⟨h.1, h.2.1.mv hal hh, h.2.2⟩) (fun r U U' V V' h1 hal h2 h => ⟨NewArr.mv r U U' V V' h1 hal h2 h.1, by rw [h1, h2]; exact h.2⟩) ?_
  intro p e s m args below meth c s₁ X0 hexec hbytes hml hret hlk hnm hown hh0 W hP
  obtain ⟨rfl, hA, l1, l2, hp⟩ := hP
  have a31 := hA.1.2.2.2
  have c1 : Steps p.tables e below (s₁.setTop (entryFrame m #[.ref b, .int (Int32.ofNat o), .int (Int32.ofNat len)] 6)) (s₁.setTop (mkF m 0 #[.val (.ref b), .val (.int (Int32.ofNat o)), .val (.int (Int32.ofNat len)), .unset, .unset, .unset] [])) := entry rfl
  have c2 : Steps p.tables e below (s₁.setTop (entryFrame m #[.ref b, .int (Int32.ofNat o), .int (Int32.ofNat len)] 6)) (s₁.setTop (mkF m 1 #[.val (.ref b), .val (.int (Int32.ofNat o)), .val (.int (Int32.ofNat len)), .unset, .unset, .unset] [.int (Int32.ofNat len)])) := c1.trans (by
    refine XS.iloadN X0.here hexec rfl (hb hbytes d0) rfl ?_
    exact Steps.refl _)
  obtain ⟨T3, B3, X3, ba3, bs3, bv3, bh3, bf3, st3⟩ := X0.anew hexec (atype := .byte) (wk W (.arrayClass .byte)) rfl (by show len * 1 ≤ _; omega) (by omega) (g := (mkF m 1 #[.val (.ref b), .val (.int (Int32.ofNat o)), .val (.int (Int32.ofNat len)), .unset, .unset, .unset] [.int (Int32.ofNat len)])) rfl (hb hbytes d1) (rest := []) rfl (Nat.le_refl _) (by show 0 + len ≤ len; omega)
  rw [hh0] at ba3 st3
  have kp3 : XT.Kept s T3 := (XT.Kept.of_eq hh0).push bh3
  have hA3 := hA.keep X3.warmed.alike (kp3 _ _ hA.1.1)
  have hne : b ≠ s.heap.size := hA.1.ne
  have c4 : Steps p.tables e below (s₁.setTop (entryFrame m #[.ref b, .int (Int32.ofNat o), .int (Int32.ofNat len)] 6)) (T3.setTop (mkF m 3 #[.val (.ref b), .val (.int (Int32.ofNat o)), .val (.int (Int32.ofNat len)), .unset, .unset, .unset] [.ref s.heap.size])) := c2.trans (st3 _ (Steps.refl _))
  have c5 : Steps p.tables e below (s₁.setTop (entryFrame m #[.ref b, .int (Int32.ofNat o), .int (Int32.ofNat len)] 6)) (T3.setTop (mkF m 9 #[.val (.ref b), .val (.int (Int32.ofNat o)), .val (.int (Int32.ofNat len)), .val (.ref s.heap.size), .unset, .unset] [.int (Int32.ofNat len), .int 0, .ref s.heap.size, .int (Int32.ofNat o), .ref b])) := c4.trans (by
    refine XS.astoreN X3.here hexec rfl (hb hbytes d3) rfl rfl rfl ?_
    refine XS.aloadN X3.here hexec rfl (hb hbytes d4) rfl rfl ?_
    refine XS.iloadN X3.here hexec rfl (hb hbytes d5) rfl ?_
    refine XS.aloadN X3.here hexec rfl (hb hbytes d6) rfl rfl ?_
    refine iconstV X3.here hexec rfl 0 (hb hbytes d7) (by decide) ?_
    refine XS.iloadN X3.here hexec rfl (hb hbytes d8) rfl ?_
    exact Steps.refl _)
  obtain ⟨v6, T6, X6, E6, g6⟩ := X3.callS hexec (Cmp5.law l b A s.heap.size B3 o 0 len) hown (wks W (staticW U16 115 Cmp5.yN)) (wk W Cmp5.tab) (W := 0) (Nat.le_of_ble_eq_true rfl) (Nat.le_of_ble_eq_true rfl) (Nat.le_refl _) (by show 0 + len + 0 ≤ len; omega) (g := (mkF m 9 #[.val (.ref b), .val (.int (Int32.ofNat o)), .val (.int (Int32.ofNat len)), .val (.ref s.heap.size), .unset, .unset] [.int (Int32.ofNat len), .int (Int32.ofNat 0), .ref s.heap.size, .int (Int32.ofNat o), .ref b])) rfl (by rw [hml]; rfl) c5 (argsL := [.ref b, .int (Int32.ofNat o), .ref s.heap.size, .int (Int32.ofNat 0), .int (Int32.ofNat len)]) (rest := []) rfl rfl (by show 2 * 0 + 0 ≤ _; decide) (hb hbytes d9) (⟨rfl, hA3, ba3, hne, l1, by rw [bs3]; simp, hp⟩)
  obtain ⟨rfl, B6, p6, f6⟩ := E6
  have c7 : Steps p.tables e below (s₁.setTop (entryFrame m #[.ref b, .int (Int32.ofNat o), .int (Int32.ofNat len)] 6)) (T6.setTop (mkF m 12 #[.val (.ref b), .val (.int (Int32.ofNat o)), .val (.int (Int32.ofNat len)), .val (.ref s.heap.size), .unset, .unset] [.int (Int32.ofNat len)])) := g6
  have c8 : Steps p.tables e below (s₁.setTop (entryFrame m #[.ref b, .int (Int32.ofNat o), .int (Int32.ofNat len)] 6)) (T6.setTop (mkF m 58 #[.val (.ref b), .val (.int (Int32.ofNat o)), .val (.int (Int32.ofNat len)), .val (.ref s.heap.size), .val (.int (Int32.ofNat len)), .unset] [.ref s.heap.size])) := c7.trans (by
    refine XS.istore X6.here hexec rfl (hb hbytes d12) rfl rfl ?_
    refine XS.iload X6.here hexec rfl (hb hbytes d14) rfl ?_
    refine XS.iloadN X6.here hexec rfl (hb hbytes d16) rfl ?_
    refine XS.icmpYes X6.here hexec rfl (pc0 := 17) rfl (hb hbytes d17) rfl (ii_eq_t rfl) (by decide) rfl ?_
    refine XS.aloadN X6.here hexec rfl (hb hbytes d57) rfl rfl ?_
    exact Steps.refl _)
  have X8 := X6.wide (L' := []) (cells' := 1) (slots' := len) (fun x hx hlt => by
    simp only [List.nil_append, copyLocs, List.mem_map, List.mem_range] at hx
    obtain ⟨i, -, rfl⟩ := hx
    exact absurd hlt (Nat.lt_irrefl _)) (Nat.le_refl _) (by omega)
  exact ⟨T6, some (.ref s.heap.size), _, _, _, X8, rfl, rfl, rfl, (fun h => by cases h), ⟨⟨rfl, B6, ba3.like (X3.warmed.alike.symm.trans X6.warmed.alike) p6.1 f6.1 f6.2.1 f6.2.2.1, f6.2.1.trans bv3, by rw [X6.warmed.alike.findClass, f6.1]; exact bf3, by rw [f6.2.2.1, bs3]; simp, fun j hj => by rw [f6.2.2.2 j, if_pos (by omega)]; rfl, kp3.put p6 (Nat.le_refl _)⟩, by rw [p6.2.2, bh3, hh0]; simp⟩, fun fs hl => c8.trans (X8.areturnOut hexec rfl hret rfl (hb hbytes d58) hl)⟩
end Cmp3
namespace CodL
def yN : MethodName := ⟨"java/lang/StringUTF16", "coderFromArrayLen", "([BI)B"⟩
abbrev yB : ByteArray := jdk_52_method_15_code
theorem d0 : decode yB 0 = .ok (.iload_n 1, 1) := by decide +kernel
theorem d1 : decode yB 1 = .ok (.aload_n 0, 1) := by decide +kernel
theorem d2 : decode yB 2 = .ok (.arraylength, 1) := by decide +kernel
theorem d3 : decode yB 3 = .ok (.isub, 1) := by decide +kernel
theorem d4 : decode yB 4 = .ok (.bipush 31, 2) := by decide +kernel
theorem d6 : decode yB 6 = .ok (.iushr, 1) := by decide +kernel
theorem d7 : decode yB 7 = .ok (.i2b, 1) := by decide +kernel
theorem d8 : decode yB 8 = .ok (.ireturn, 1) := by decide +kernel
def site : List Cond := []
def tab : Cond := tabOf yN yB 2 (some .byte) site
def P (d : Addr) (B : Cell) (args : Array Value) (s : State) : Prop := args = #[.ref d, .int (Int32.ofNat B.slots.size)] ∧ Arr .byte d B s
def E (r : Option Value) (s u : State) : Prop := XT.PureE (some (.int 0)) r s u
/-- an array as long as the number of chars: LATIN1 -/
theorem law (l : Launch) (d : Addr) (B : Cell) : Law l yN 2 2 0 0 yB 2 (some .byte) site (P d B) E [] 0 0 := by
  refine Law.of_walk (plainFor_of_name (by decide +kernel)) (by decide +kernel) (by decide +kernel) (by decide) (fun _ _ h => by rw [h.1]; rfl) (fun _ U U' hal hh h => ⟨h.1, h.2.mv hal hh⟩) (fun r U U' V V' h1 hal h2 h => XT.PureE.mv r U U' V V' h1 hal h2 h) ?_
  intro p e s m args below meth c s₁ X0 hexec hbytes hml hret hlk hnm hown hh0 W hP
  obtain ⟨rfl, hB⟩ := hP
  have hB0 := hB.mv X0.warmed.alike hh0
  have c1 : Steps p.tables e below (s₁.setTop (entryFrame m #[.ref d, .int (Int32.ofNat B.slots.size)] 2)) (s₁.setTop (mkF m 0 #[.val (.ref d), .val (.int (Int32.ofNat B.slots.size))] [])) := entry rfl
  have c2 : Steps p.tables e below (s₁.setTop (entryFrame m #[.ref d, .int (Int32.ofNat B.slots.size)] 2)) (s₁.setTop (mkF m 2 #[.val (.ref d), .val (.int (Int32.ofNat B.slots.size))] [.ref d, .int (Int32.ofNat B.slots.size)])) := c1.trans (by
    refine XS.iloadN X0.here hexec rfl (hb hbytes d0) rfl ?_
    refine XS.aloadN X0.here hexec rfl (hb hbytes d1) rfl rfl ?_
    exact Steps.refl _)
  have c3 : Steps p.tables e below (s₁.setTop (entryFrame m #[.ref d, .int (Int32.ofNat B.slots.size)] 2)) (s₁.setTop (mkF m 8 #[.val (.ref d), .val (.int (Int32.ofNat B.slots.size))] [.int (lo8 (ushr (Int32.ofNat B.slots.size - Int32.ofNat B.slots.size) 31))])) := c2.trans (by
    refine X0.alen hexec hB0 rfl rfl (hb hbytes d2) ?_
    refine XS.isub X0.here hexec rfl (hb hbytes d3) rfl ?_
    refine bipushV X0.here hexec rfl 31 (hb hbytes d4) (by decide) ?_
    refine iushr X0.here hexec rfl (hb hbytes d6) rfl ?_
    refine i2b X0.here hexec rfl (hb hbytes d7) rfl ?_
    exact Steps.refl _)
  have e0 : lo8 (ushr (Int32.ofNat B.slots.size - Int32.ofNat B.slots.size) 31) = 0 := by rw [Int32.sub_self]; decide
  rw [e0] at c3
  exact ⟨s₁, some (.int 0), _, _, _, X0, rfl, rfl, rfl, (fun h => by cases h), ⟨rfl, hh0⟩, fun fs hl => c3.trans (X0.ireturnOut hexec hret rfl (Or.inr (Or.inr (Or.inl rfl))) (hb hbytes d8) hl)⟩
end CodL
/-- the String at a is Latin-1 over a new byte[] (the heap's one new cell): the low bytes of the len chars of A from o on; every cell but a is kept -/
def Got (a : Addr) (D : Cell) (fV fC : Field) (A : Cell) (o len : Nat) (r : Option Value) (s u : State) : Prop := r = none ∧ ∃ D' V : Cell, Blank "java/lang/String" a D' u ∧ Same D D' [fV.slot, fC.slot] ∧ D'.slots[fV.slot]? = some (.ref s.heap.size) ∧ D'.slots[fC.slot]? = some (.int 0) ∧ Arr .byte s.heap.size V u ∧ V.vm = .none ∧ u.vm.findClass "[B" = some V.cls ∧ V.slots.size = len ∧ (∀ j, j < len → V.slots[j]? = some (.int (lo8 (cv A (o + j))))) ∧ (∀ (y : Addr) (c : Cell), y ≠ a → s.heap[y]? = some c → u.heap[y]? = some c) ∧ u.heap.size = s.heap.size + 1
theorem Got.mv {a : Addr} {D A : Cell} {fV fC : Field} {o len : Nat} : ∀ r (U U' V V' : State), U'.heap = U.heap → V.vm.Alike V'.vm → V'.heap = V.heap → Got a D fV fC A o len r U V → Got a D fV fC A o len r U' V' :=
  fun r U U' V V' h1 hal h2 ⟨e0, D', X, a1, a2, a3, a4, a5, a6, a7, a8, a9, a10, a11⟩ => ⟨e0, D', X, a1.mv hal h2, a2, by rw [h1]; exact a3, a4, by rw [h1]; exact a5.mv hal h2, a6, by rw [hal.findClass]; exact a7, a8, a9, by rw [h1, h2]; exact a10, by rw [h1, h2]; exact a11⟩
namespace New4
def yN : MethodName := ⟨"java/lang/String", "<init>", "([CIILjava/lang/Void;)V"⟩
abbrev yB : ByteArray := jdk_42_method_149_code
theorem d0 : decode yB 0 = .ok (.aload_n 0, 1) := by decide +kernel
theorem d1 : decode yB 1 = .ok (.invokespecial 1, 3) := by decide +kernel
theorem d4 : decode yB 4 = .ok (.iload_n 3, 1) := by decide +kernel
theorem d5 : decode yB 5 = .ok (.ifCond (.ne) 22, 3) := by decide +kernel
theorem d27 : decode yB 27 = .ok (.getstatic 38, 3) := by decide +kernel
theorem d30 : decode yB 30 = .ok (.ifCond (.eq) 28, 3) := by decide +kernel
theorem d33 : decode yB 33 = .ok (.aload_n 1, 1) := by decide +kernel
theorem d34 : decode yB 34 = .ok (.iload_n 2, 1) := by decide +kernel
theorem d35 : decode yB 35 = .ok (.iload_n 3, 1) := by decide +kernel
theorem d36 : decode yB 36 = .ok (.invokestatic 177, 3) := by decide +kernel
theorem d39 : decode yB 39 = .ok (.astore 5, 2) := by decide +kernel
theorem d41 : decode yB 41 = .ok (.aload_n 0, 1) := by decide +kernel
theorem d42 : decode yB 42 = .ok (.aload 5, 2) := by decide +kernel
theorem d44 : decode yB 44 = .ok (.iload_n 3, 1) := by decide +kernel
theorem d45 : decode yB 45 = .ok (.invokestatic 47, 3) := by decide +kernel
theorem d48 : decode yB 48 = .ok (.putfield 15, 3) := by decide +kernel
theorem d51 : decode yB 51 = .ok (.aload_n 0, 1) := by decide +kernel
theorem d52 : decode yB 52 = .ok (.aload 5, 2) := by decide +kernel
theorem d54 : decode yB 54 = .ok (.putfield 9, 3) := by decide +kernel
theorem d57 : decode yB 57 = .ok (.return_, 1) := by decide +kernel
def site : List Cond := [.fieldLink "java/lang/String" 38 "java/lang/String" "COMPACT_STRINGS" "Z", Cmp3.tab, CodL.tab, .laysFinal "java/lang/String" "java/lang/String" "value" "[B", .fieldLink "java/lang/String" 9 "java/lang/String" "value" "[B", .laysFinal "java/lang/String" "java/lang/String" "coder" "B", .fieldLink "java/lang/String" 15 "java/lang/String" "coder" "B"] ++ objW "java/lang/String" 1 ++ staticW "java/lang/String" 177 Cmp3.yN ++ staticW "java/lang/String" 47 CodL.yN
def tab : Cond := tabOf yN yB 6 none site
def P (a : Addr) (D : Cell) (fV fC : Field) (b : Addr) (A : Cell) (z : Int32) (o len : Nat) (args : Array Value) (s : State) : Prop := args = #[.ref a, .ref b, .int (Int32.ofNat o), .int (Int32.ofNat len), .null] ∧ Blank "java/lang/String" a D s ∧ Found "java/lang/String" "value" "[B" fV s ∧ Found "java/lang/String" "coder" "B" fC s ∧ Ch b A s ∧ StaticIs s "java/lang/String" "COMPACT_STRINGS" "Z" (.int z) ∧ ¬ z = 0 ∧ 0 < len ∧ o + len ≤ A.slots.size ∧ len ≤ 536870912 ∧ ∀ i, i < len → ¬ 255 < cv A (o + i)
def E (a : Addr) (D : Cell) (fV fC : Field) (A : Cell) (o len : Nat) (r : Option Value) (s u : State) : Prop := Got a D fV fC A o len r s u
/-- len > 0, no char of the range above 255: a Latin-1 String of their low bytes -/
theorem law (l : Launch) (a : Addr) (D : Cell) (fV fC : Field) (b : Addr) (A : Cell) (z : Int32) (o len : Nat) : Law l yN 5 4 2 35 yB 6 none site (P a D fV fC b A z o len) (E a D fV fC A o len) [⟨a, fC.slot⟩, ⟨a, fV.slot⟩] 1 len := by
  refine Law.of_walk (plainFor_of_name (by decide +kernel)) (by decide +kernel) (by decide +kernel) (by decide) (fun _ _ h => by rw [h.1]; rfl) (fun _ U U' hal hh h => ⟨h.1, h.2.1.mv hal hh, h.2.2.1.al hal, h.2.2.2.1.al hal, h.2.2.2.2.1.mv hal hh, h.2.2.2.2.2.1.there hal hh, h.2.2.2.2.2.2⟩) (fun r U U' V V' h1 hal h2 h => Got.mv r U U' V V' h1 hal h2 h) ?_
  intro p e s m args below meth c s₁ X0 hexec hbytes hml hret hlk hnm hown hh0 W hP
  obtain ⟨rfl, hB, f1, f2, hA, s1, hz, l0, l1, l2, hp⟩ := hP
  have a31 := hA.1.2.2.2
  have c1 : Steps p.tables e below (s₁.setTop (entryFrame m #[.ref a, .ref b, .int (Int32.ofNat o), .int (Int32.ofNat len), .null] 6)) (s₁.setTop (mkF m 0 #[.val (.ref a), .val (.ref b), .val (.int (Int32.ofNat o)), .val (.int (Int32.ofNat len)), .val .null, .unset] [])) := entry rfl
  have c2 : Steps p.tables e below (s₁.setTop (entryFrame m #[.ref a, .ref b, .int (Int32.ofNat o), .int (Int32.ofNat len), .null] 6)) (s₁.setTop (mkF m 1 #[.val (.ref a), .val (.ref b), .val (.int (Int32.ofNat o)), .val (.int (Int32.ofNat len)), .val .null, .unset] [.ref a])) := c1.trans (by
    refine XS.aloadN X0.here hexec rfl (hb hbytes d0) rfl rfl ?_
    exact Steps.refl _)
  obtain ⟨T3, X3, q3, st3⟩ := X0.oinit hexec hown (wks W (objW "java/lang/String" 1)) (g := (mkF m 1 #[.val (.ref a), .val (.ref b), .val (.int (Int32.ofNat o)), .val (.int (Int32.ofNat len)), .val .null, .unset] [.ref a])) rfl (by rw [hml]; rfl) (rest := []) rfl (hb hbytes d1) (W := 0) (by show 2 * 0 + 0 ≤ _; decide) (Nat.le_of_ble_eq_true rfl) (Nat.le_of_ble_eq_true rfl)
  have hh3 := q3.trans hh0
  have c4 : Steps p.tables e below (s₁.setTop (entryFrame m #[.ref a, .ref b, .int (Int32.ofNat o), .int (Int32.ofNat len), .null] 6)) (T3.setTop (mkF m 27 #[.val (.ref a), .val (.ref b), .val (.int (Int32.ofNat o)), .val (.int (Int32.ofNat len)), .val .null, .unset] [])) := (c2.trans (st3 _ (Steps.refl _))).trans (by
    refine XS.iloadN X3.here hexec rfl (hb hbytes d4) rfl ?_
    refine XS.ifYes X3.here hexec rfl (pc0 := 5) rfl (hb hbytes d5) rfl (i0_ne_t (nz32 (by omega) l0)) (by decide) rfl ?_
    exact Steps.refl _)
  obtain ⟨T5, X5, q5, st5⟩ := X3.sget hexec hown (wk W (.fieldLink "java/lang/String" 38 "java/lang/String" "COMPACT_STRINGS" "Z")) s1 (fun _ _ h => by rw [hh3]; exact h) (g := (mkF m 27 #[.val (.ref a), .val (.ref b), .val (.int (Int32.ofNat o)), .val (.int (Int32.ofNat len)), .val .null, .unset] [])) rfl (hb hbytes d27)
  have hh5 := q5.trans hh3
  have c6 : Steps p.tables e below (s₁.setTop (entryFrame m #[.ref a, .ref b, .int (Int32.ofNat o), .int (Int32.ofNat len), .null] 6)) (T5.setTop (mkF m 30 #[.val (.ref a), .val (.ref b), .val (.int (Int32.ofNat o)), .val (.int (Int32.ofNat len)), .val .null, .unset] [.int z])) := c4.trans (st5 _ (Steps.refl _))
  have c7 : Steps p.tables e below (s₁.setTop (entryFrame m #[.ref a, .ref b, .int (Int32.ofNat o), .int (Int32.ofNat len), .null] 6)) (T5.setTop (mkF m 36 #[.val (.ref a), .val (.ref b), .val (.int (Int32.ofNat o)), .val (.int (Int32.ofNat len)), .val .null, .unset] [.int (Int32.ofNat len), .int (Int32.ofNat o), .ref b])) := c6.trans (by
    refine XS.ifNo X5.here hexec rfl (hb hbytes d30) rfl (i0_eq_f hz) ?_
    refine XS.aloadN X5.here hexec rfl (hb hbytes d33) rfl rfl ?_
    refine XS.iloadN X5.here hexec rfl (hb hbytes d34) rfl ?_
    refine XS.iloadN X5.here hexec rfl (hb hbytes d35) rfl ?_
    exact Steps.refl _)
  obtain ⟨v8, T8, X8, E8, g8⟩ := X5.callS hexec (Cmp3.law l b A o len) hown (wks W (staticW "java/lang/String" 177 Cmp3.yN)) (wk W Cmp3.tab) (W := 0) (Nat.le_of_ble_eq_true rfl) (Nat.le_of_ble_eq_true rfl) (Nat.le_refl _) (by show 0 + len ≤ len; omega) (g := (mkF m 36 #[.val (.ref a), .val (.ref b), .val (.int (Int32.ofNat o)), .val (.int (Int32.ofNat len)), .val .null, .unset] [.int (Int32.ofNat len), .int (Int32.ofNat o), .ref b])) rfl (by rw [hml]; rfl) c7 (argsL := [.ref b, .int (Int32.ofNat o), .int (Int32.ofNat len)]) (rest := []) rfl rfl (by show 2 * 0 + 0 ≤ _; decide) (hb hbytes d36) (⟨rfl, hA.mv X5.warmed.alike hh5, l1, l2, hp⟩)
  obtain ⟨e8, z8⟩ := E8
  obtain ⟨rfl, N, n1, n2, n3, n4, n5, n6⟩ := NewArr.mv _ T5 s _ _ hh5.symm (Vm.Alike.refl _) rfl e8
  rw [hh5] at z8
  have hB1 := hB.keep X8.warmed.alike (n6 _ _ hB.1)
  have hne : s.heap.size ≠ a := (Nat.ne_of_lt (Array.getElem?_eq_some_iff.mp hB.1).1).symm
  have c9 : Steps p.tables e below (s₁.setTop (entryFrame m #[.ref a, .ref b, .int (Int32.ofNat o), .int (Int32.ofNat len), .null] 6)) (T8.setTop (mkF m 39 #[.val (.ref a), .val (.ref b), .val (.int (Int32.ofNat o)), .val (.int (Int32.ofNat len)), .val .null, .unset] [.ref s.heap.size])) := g8
  have c10 : Steps p.tables e below (s₁.setTop (entryFrame m #[.ref a, .ref b, .int (Int32.ofNat o), .int (Int32.ofNat len), .null] 6)) (T8.setTop (mkF m 45 #[.val (.ref a), .val (.ref b), .val (.int (Int32.ofNat o)), .val (.int (Int32.ofNat len)), .val .null, .val (.ref s.heap.size)] [.int (Int32.ofNat N.slots.size), .ref s.heap.size, .ref a])) := by
    have hc : Steps p.tables e below (s₁.setTop (entryFrame m #[.ref a, .ref b, .int (Int32.ofNat o), .int (Int32.ofNat len), .null] 6)) (T8.setTop (mkF m 45 #[.val (.ref a), .val (.ref b), .val (.int (Int32.ofNat o)), .val (.int (Int32.ofNat len)), .val .null, .val (.ref s.heap.size)] [.int (Int32.ofNat len), .ref s.heap.size, .ref a])) := c9.trans (by
      refine XS.astore X8.here hexec rfl (hb hbytes d39) rfl rfl rfl ?_
      refine XS.aloadN X8.here hexec rfl (hb hbytes d41) rfl rfl ?_
      refine XS.aload X8.here hexec rfl (hb hbytes d42) rfl rfl ?_
      refine XS.iloadN X8.here hexec rfl (hb hbytes d44) rfl ?_
      exact Steps.refl _)
    rw [n4]; exact hc
  obtain ⟨v11, T11, X11, E11, g11⟩ := X8.callS hexec (CodL.law l s.heap.size N) hown (wks W (staticW "java/lang/String" 47 CodL.yN)) (wk W CodL.tab) (W := 1) (Nat.le_of_ble_eq_true rfl) (Nat.le_of_ble_eq_true rfl) (Nat.le_refl _) (by show 0 + len + 0 ≤ len; omega) (g := (mkF m 45 #[.val (.ref a), .val (.ref b), .val (.int (Int32.ofNat o)), .val (.int (Int32.ofNat len)), .val .null, .val (.ref s.heap.size)] [.int (Int32.ofNat N.slots.size), .ref s.heap.size, .ref a])) rfl (by rw [hml]; rfl) c10 (argsL := [.ref s.heap.size, .int (Int32.ofNat N.slots.size)]) (rest := [.ref a]) rfl rfl (by show 2 * 0 + (1 + 0) ≤ _; decide) (hb hbytes d45) (⟨rfl, n1⟩)
  obtain ⟨rfl, q11⟩ := E11
  have hB11 := hB1.mv (X8.warmed.alike.symm.trans X11.warmed.alike) q11
  have c12 : Steps p.tables e below (s₁.setTop (entryFrame m #[.ref a, .ref b, .int (Int32.ofNat o), .int (Int32.ofNat len), .null] 6)) (T11.setTop (mkF m 48 #[.val (.ref a), .val (.ref b), .val (.int (Int32.ofNat o)), .val (.int (Int32.ofNat len)), .val .null, .val (.ref s.heap.size)] [.int 0, .ref a])) := g11
  obtain ⟨T13, X13, p13, bl13, sl13, st13⟩ := X11.finit hexec hown (wk W (.fieldLink "java/lang/String" 15 "java/lang/String" "coder" "B")) (Or.inr ⟨_, (wk W (.laysFinal "java/lang/String" "java/lang/String" "coder" "B"))⟩) (Or.inl ⟨rfl, hnm⟩) f2 (Or.inl rfl) hB11 (t := .byte) (by decide +kernel) rfl (g := (mkF m 48 #[.val (.ref a), .val (.ref b), .val (.int (Int32.ofNat o)), .val (.int (Int32.ofNat len)), .val .null, .val (.ref s.heap.size)] [.int 0, .ref a])) rfl (rest := []) rfl (hb hbytes d48)
  have c14 : Steps p.tables e below (s₁.setTop (entryFrame m #[.ref a, .ref b, .int (Int32.ofNat o), .int (Int32.ofNat len), .null] 6)) (T13.setTop (mkF m 54 #[.val (.ref a), .val (.ref b), .val (.int (Int32.ofNat o)), .val (.int (Int32.ofNat len)), .val .null, .val (.ref s.heap.size)] [.ref s.heap.size, .ref a])) := (c12.trans (st13 _ (Steps.refl _))).trans (by
    refine XS.aloadN X13.here hexec rfl (hb hbytes d51) rfl rfl ?_
    refine XS.aload X13.here hexec rfl (hb hbytes d52) rfl rfl ?_
    exact Steps.refl _)
  obtain ⟨T15, X15, p15, bl15, sl15, st15⟩ := X13.finit hexec hown (wk W (.fieldLink "java/lang/String" 9 "java/lang/String" "value" "[B")) (Or.inr ⟨_, (wk W (.laysFinal "java/lang/String" "java/lang/String" "value" "[B"))⟩) (Or.inl ⟨rfl, hnm⟩) f1 (Or.inl rfl) bl13 (t := (.array .byte)) (by decide +kernel) rfl (g := (mkF m 54 #[.val (.ref a), .val (.ref b), .val (.int (Int32.ofNat o)), .val (.int (Int32.ofNat len)), .val .null, .val (.ref s.heap.size)] [.ref s.heap.size, .ref a])) rfl (rest := []) rfl (hb hbytes d54)
  have c16 : Steps p.tables e below (s₁.setTop (entryFrame m #[.ref a, .ref b, .int (Int32.ofNat o), .int (Int32.ofNat len), .null] 6)) (T15.setTop (mkF m 57 #[.val (.ref a), .val (.ref b), .val (.int (Int32.ofNat o)), .val (.int (Int32.ofNat len)), .val .null, .val (.ref s.heap.size)] [])) := c14.trans (st15 _ (Steps.refl _))
  have ap := apart (Or.inr ⟨_, (wk W (.laysFinal "java/lang/String" "java/lang/String" "value" "[B"))⟩) (Or.inr ⟨_, (wk W (.laysFinal "java/lang/String" "java/lang/String" "coder" "B"))⟩) f1 f2 (t₁ := .array .byte) (t₂ := .byte) (by decide +kernel) (by decide +kernel) (by decide)
  have al := X8.warmed.alike.symm.trans X15.warmed.alike
  have n7 : T11.heap[s.heap.size]? = some N := by rw [q11]; exact n1.1
  exact ⟨T15, none, _, _, _, X15, by simp, rfl, by omega, (fun _ => rfl), ⟨rfl, _, N, bl15, ((Same.refl D _).set _ (by simp)).set _ (by simp), sl15, (Cell.slots_setSlot_ne _ ap).trans sl13, n1.keep al (p15.other hne (p13.other hne n7)), n2, by rw [al.findClass]; exact n3, n4, n5, fun y c h1 h2 => p15.other h1 (p13.other h1 (by rw [q11]; exact n6 y c h2)), by rw [p15.2.2, p13.2.2, q11]; exact z8⟩, fun fs hl => c16.trans (X15.returnOut hexec hret (hb hbytes d57) hl)⟩
end New4
namespace New1
def yN : MethodName := ⟨"java/lang/String", "<init>", "([C)V"⟩
abbrev yB : ByteArray := jdk_42_method_3_code
theorem d0 : decode yB 0 = .ok (.aload_n 0, 1) := by decide +kernel
theorem d1 : decode yB 1 = .ok (.aload_n 1, 1) := by decide +kernel
theorem d2 : decode yB 2 = .ok (.iconst 0, 1) := by decide +kernel
theorem d3 : decode yB 3 = .ok (.aload_n 1, 1) := by decide +kernel
theorem d4 : decode yB 4 = .ok (.arraylength, 1) := by decide +kernel
theorem d5 : decode yB 5 = .ok (.aconst_null, 1) := by decide +kernel
theorem d6 : decode yB 6 = .ok (.invokespecial 27, 3) := by decide +kernel
theorem d9 : decode yB 9 = .ok (.return_, 1) := by decide +kernel
def site : List Cond := [New4.tab] ++ initW "java/lang/String" 27 New4.yN
def tab : Cond := tabOf yN yB 2 none site
def P (a : Addr) (D : Cell) (fV fC : Field) (b : Addr) (A : Cell) (z : Int32) (args : Array Value) (s : State) : Prop := args = #[.ref a, .ref b] ∧ Blank "java/lang/String" a D s ∧ Found "java/lang/String" "value" "[B" fV s ∧ Found "java/lang/String" "coder" "B" fC s ∧ Ch b A s ∧ StaticIs s "java/lang/String" "COMPACT_STRINGS" "Z" (.int z) ∧ ¬ z = 0 ∧ 0 < A.slots.size ∧ A.slots.size ≤ 536870912 ∧ ∀ i, i < A.slots.size → ¬ 255 < cv A i
def E (a : Addr) (D : Cell) (fV fC : Field) (A : Cell) (r : Option Value) (s u : State) : Prop := Got a D fV fC A 0 A.slots.size r s u
/-- new String(chars), not empty, no char above 255: a Latin-1 String of their low bytes -/
theorem law (l : Launch) (a : Addr) (D : Cell) (fV fC : Field) (b : Addr) (A : Cell) (z : Int32) : Law l yN 2 1 3 52 yB 2 none site (P a D fV fC b A z) (E a D fV fC A) [⟨a, fC.slot⟩, ⟨a, fV.slot⟩] 1 A.slots.size := by
  refine Law.of_walk (plainFor_of_name (by decide +kernel)) (by decide +kernel) (by decide +kernel) (by decide) (fun _ _ h => by rw [h.1]; rfl) (fun _ U U' hal hh h => ⟨h.1, h.2.1.mv hal hh, h.2.2.1.al hal, h.2.2.2.1.al hal, h.2.2.2.2.1.mv hal hh, h.2.2.2.2.2.1.there hal hh, h.2.2.2.2.2.2⟩) (fun r U U' V V' h1 hal h2 h => Got.mv r U U' V V' h1 hal h2 h) ?_
  intro p e s m args below meth c s₁ X0 hexec hbytes hml hret hlk hnm hown hh0 W hP
  obtain ⟨rfl, hB, f1, f2, hA, s1, hz, l0, l2, hp⟩ := hP
  have c1 : Steps p.tables e below (s₁.setTop (entryFrame m #[.ref a, .ref b] 2)) (s₁.setTop (mkF m 0 #[.val (.ref a), .val (.ref b)] [])) := entry rfl
  have c2 : Steps p.tables e below (s₁.setTop (entryFrame m #[.ref a, .ref b] 2)) (s₁.setTop (mkF m 6 #[.val (.ref a), .val (.ref b)] [.null, .int (Int32.ofNat A.slots.size), .int 0, .ref b, .ref a])) := c1.trans (by
    refine XS.aloadN X0.here hexec rfl (hb hbytes d0) rfl rfl ?_
    refine XS.aloadN X0.here hexec rfl (hb hbytes d1) rfl rfl ?_
    refine iconstV X0.here hexec rfl 0 (hb hbytes d2) (by decide) ?_
    refine XS.aloadN X0.here hexec rfl (hb hbytes d3) rfl rfl ?_
    refine X0.alen hexec (hA.1.mv X0.warmed.alike hh0) rfl rfl (hb hbytes d4) ?_
    refine XS.aconstNull X0.here hexec rfl (hb hbytes d5) ?_
    exact Steps.refl _)
  obtain ⟨v3, T3, X3, E3, g3⟩ := X0.callN hexec (New4.law l a D fV fC b A z 0 A.slots.size) rfl hown (wks W (initW "java/lang/String" 27 New4.yN)) (W New4.tab (by simp only [site, List.mem_cons, List.mem_append, true_or, or_true])) (W := 0) (Nat.le_of_ble_eq_true rfl) (Nat.le_of_ble_eq_true rfl) (Nat.le_refl _) (by show 0 + A.slots.size ≤ A.slots.size; omega) (g := (mkF m 6 #[.val (.ref a), .val (.ref b)] [.null, .int (Int32.ofNat A.slots.size), .int (Int32.ofNat 0), .ref b, .ref a])) rfl (by rw [hml]; rfl) c2 (argsL := [.ref b, .int (Int32.ofNat 0), .int (Int32.ofNat A.slots.size), .null]) (rest := []) rfl rfl (by show 2 * 0 + 0 ≤ _; decide) (hb hbytes d6) (⟨rfl, hB.mv X0.warmed.alike hh0, f1.al X0.warmed.alike, f2.al X0.warmed.alike, hA.mv X0.warmed.alike hh0, s1.there X0.warmed.alike hh0, hz, l0, by omega, l2, fun i hi => by rw [Nat.zero_add]; exact hp i hi⟩)
  have e0 := Got.mv _ s₁ s _ _ hh0.symm (Vm.Alike.refl _) rfl E3
  obtain rfl := e0.1
  have c4 : Steps p.tables e below (s₁.setTop (entryFrame m #[.ref a, .ref b] 2)) (T3.setTop (mkF m 9 #[.val (.ref a), .val (.ref b)] [])) := g3
  exact ⟨T3, none, _, _, _, X3, by simp, rfl, by omega, (fun _ => rfl), e0, fun fs hl => c4.trans (X3.returnOut hexec hret (hb hbytes d9) hl)⟩
theorem pays {l : Launch} {R : Room} {p : Program} {e : Env} {below : List Frame} {s : State} {sargs : Array Value} {len W : Nat} (a : Addr) (D : Cell) (fV fC : Field) (b : Addr) (A : Cell) (z : Int32) (htab : tab.before sargs s = true) (hfr : 4 ≤ R.frames) (hlo : W + 65 ≤ R.locals) :
    Back l R p e below s sargs yN len W (fun A₁ a₁ => A₁.cells + 1 ≤ R.cells ∧ A₁.slots + A.slots.size ≤ R.slots ∧ P a D fV fC b A z a₁ A₁.U) (fun A₁ _ v₁ B₁ => E a D fV fC A v₁ A₁.U B₁.U ∧ B₁.locs = A₁.locs ++ [⟨a, fC.slot⟩, ⟨a, fV.slot⟩] ∧ B₁.cells = A₁.cells + 1 ∧ B₁.slots = A₁.slots + A.slots.size) :=
  (law l a D fV fC b A z).pays htab hfr (by omega)
end New1
/-- the byte, read back as charAt reads it, is the char -/
theorem lo8_mask {x : Int32} (h0 : ¬ x < 0) (h1 : ¬ 255 < x) : lo8 x &&& 255 = x := by
  have t : ∀ k : Fin 256, lo8 (Int32.ofNat k.val) &&& 255 = Int32.ofNat k.val := by decide +kernel
  rw [Int32.lt_iff_toInt_lt] at h0 h1
  have e0 : (0 : Int32).toInt = 0 := rfl
  have e1 : (255 : Int32).toInt = 255 := rfl
  obtain ⟨k, hk⟩ : ∃ k : Nat, x.toInt = k := ⟨x.toInt.toNat, by omega⟩
  have hx : x = Int32.ofNat k := Int32.toInt_inj.mp (by rw [hk, Int32.toInt_ofNat_small (by omega)])
  rw [hx]
  exact t ⟨k, by omega⟩
end StrChars
namespace StrChars.Road
open Jvm Sem ClassFile Op Lib Jvm.Stand Jvm.Free Jvm.Free.XT
open Jvm.Lib.Cold (StaticIs)
abbrev ST : String := "java/lang/String"
/-- every table word that New1's law asks, flat -/
abbrev words : List Jvm.Cond := [.code New1.yN New1.yB 2 none, .initialized ST, .methodLink ST 27 New4.yN, .instanceMethod New4.yN,
  .code New4.yN New4.yB 6 none, .fieldLink ST 38 ST "COMPACT_STRINGS" "Z", .laysFinal ST ST "value" "[B", .fieldLink ST 9 ST "value" "[B", .laysFinal ST ST "coder" "B", .fieldLink ST 15 ST "coder" "B",
  .methodLink ST 1 Lib.objectInit, .instanceMethod Lib.objectInit, .code Lib.objectInit ⟨#[0xb1]⟩ 1 none, .methodLink ST 177 Cmp3.yN, .static Cmp3.yN, .methodLink ST 47 CodL.yN, .static CodL.yN,
  .code Cmp3.yN Cmp3.yB 6 (some (.array .byte)), .initialized U16, .arrayClass .byte, .methodLink U16 115 Cmp5.yN, .static Cmp5.yN, .code Cmp5.yN Cmp5.yB 7 (some .int), .code CodL.yN CodL.yB 2 (some .byte)]
theorem tab_of {a : Array Value} {s : State} (h : ∀ w ∈ words, w.before a s = true) : New1.tab.before a s = true := by
  have h5 : Cmp5.tab.before a s = true := unparts (wk h (.code Cmp5.yN Cmp5.yB 7 (some .int))) (wks h (.initialized Cmp5.yN.cls :: Cmp5.site))
  have hc : CodL.tab.before a s = true := unparts (wk h (.code CodL.yN CodL.yB 2 (some .byte))) (wks h (.initialized CodL.yN.cls :: CodL.site))
  have q5 : ∀ w ∈ Cmp5.tab :: words, w.before a s = true := fun w hw => (List.mem_cons.mp hw).elim (fun e => e ▸ h5) (h w)
  have h3 : Cmp3.tab.before a s = true := unparts (wk q5 (.code Cmp3.yN Cmp3.yB 6 (some (.array .byte)))) (wks q5 (.initialized Cmp3.yN.cls :: Cmp3.site))
  have q3 : ∀ w ∈ Cmp3.tab :: CodL.tab :: words, w.before a s = true := fun w hw => (List.mem_cons.mp hw).elim (fun e => e ▸ h3) fun hw => (List.mem_cons.mp hw).elim (fun e => e ▸ hc) (h w)
  have h4 : New4.tab.before a s = true := unparts (wk q3 (.code New4.yN New4.yB 6 none)) (wks q3 (.initialized New4.yN.cls :: New4.site))
  have q4 : ∀ w ∈ New4.tab :: words, w.before a s = true := fun w hw => (List.mem_cons.mp hw).elim (fun e => e ▸ h4) (h w)
  exact unparts (wk q4 (.code New1.yN New1.yB 2 none)) (wks q4 (.initialized New1.yN.cls :: New1.site))
/-- the words ride from the start Z to the walk's own state -/
theorem moved {Z s : State} {a0 args : Array Value} (hZ : Z.Warmed39 s.vm) (hw : ∀ d ∈ words, d.before a0 Z = true) : ∀ d ∈ words, d.before args s = true := fun d hd => by
  have q := hw d hd
  have t : ∀ d ∈ words, d = .arrayClass .byte ∨ (d.onTables && d.keepsFace) = true := by decide +kernel
  rcases t d hd with rfl | t
  · exact RoadKit.mvA hZ q
  · exact RoadKit.mv hZ q t
/-- WHAT COMES BACK, over the tables of the start Z: h the heap at the call, h' behind it -/
def Q (Z : State) (x : Addr) (A : Cell) (h : Heap) (v : Option Value) (h' : Heap) (L : List Loc) : Prop := v = none ∧ (∀ y ∈ L, y.base = x) ∧ RoadKit.Keep h h' [x] ∧ h'.size = h.size + 1 ∧ RoadKit.Exa Z h' x ST ∧ RoadKit.Fld Z h' x ST "value" "[B" (.ref h.size) ∧ RoadKit.Fld Z h' x ST "coder" "B" (.int 0) ∧
  (∃ V : Cell, RoadKit.Arr Z h' h.size V .byte ∧ V.vm = .none ∧ Z.vm.findClass "[B" = some V.cls ∧ V.slots.size = A.slots.size ∧ ∀ j, j < A.slots.size → V.slots[j]? = some (.int (lo8 (cv A j)))) ∧
  ∀ (O n d : String) (w : Value), RoadKit.Fld Z h x O n d w → RoadKit.slotOf Z O n d ≠ RoadKit.slotOf Z ST "value" "[B" → RoadKit.slotOf Z O n d ≠ RoadKit.slotOf Z ST "coder" "B" → RoadKit.Fld Z h' x O n d w
/-- **new String(chars) AT A CALL, IN THE ROAD'S FORM**: for specialBack behind newO: x the fresh String, b the char[] with the cell A -/
theorem back {p : Program} {l : Launch} {e : Env} {R : Room} {s : State} {args : Array Value} {below : List Frame} {len W : Nat} {Z : State} {a0 : Array Value} {h : Heap} (hZ : Z.Warmed39 s.vm) (hw : ∀ d ∈ words, d.before a0 Z = true) {kI : Nat} (wi : (Jvm.Cond.instantiable ST kI).before a0 Z = true)
    {x b : Addr} {A : Cell} {z : Int32} {v0 c0 : Value} (E : RoadKit.Exa Z h x ST) (V : RoadKit.Fld Z h x ST "value" "[B" v0) (C : RoadKit.Fld Z h x ST "coder" "B" c0) (K : RoadKit.Arr Z h b A .char) (hty : Typed .char A) (S : RoadKit.Sta Z h ST "COMPACT_STRINGS" "Z" (.int z)) (hz : ¬ z = 0)
    (l0 : 0 < A.slots.size) (l2 : A.slots.size ≤ 536870912) (hp : ∀ i, i < A.slots.size → ¬ 255 < cv A i) (hfr : 4 ≤ R.frames) (hlo : W + 65 ≤ R.locals) :
    Back l R p e below s args New1.yN len W (fun P a => a = #[.ref x, .ref b] ∧ P.U.heap = h ∧ P.cells + 1 ≤ R.cells ∧ P.slots + A.slots.size ≤ R.slots)
      (fun P _ v B => ∃ L, Q Z x A h v B.U.heap L ∧ B.locs = P.locs ++ L ∧ B.cells = P.cells + 1 ∧ B.slots = P.slots + A.slots.size) := by
  intro m meth c P g ig mk a X hg hsize hdg hW hn hp'
  obtain ⟨rfl, rfl, r1, r2⟩ := hp'
  have al : Z.vm.Alike P.U.vm := hZ.alike.trans X.warmed.alike
  obtain ⟨D, cfV, kV, iV, fV, hD, gV, stV, knV, obV, asV, slV⟩ := id V
  obtain ⟨D', cfC, kC, iC, fC, hD', gC, stC, -, -, asC, slC⟩ := id C
  cases hD.symm.trans hD'
  obtain ⟨D2, kD, e1, e2, e3, e4, e5⟩ := id E
  cases hD.symm.trans e1
  obtain ⟨c2, k2, i1, i2, i3, -⟩ := Cond.instantiable_spec wi
  cases e2.symm.trans i1
  cases e3.symm.trans i2
  obtain ⟨kU, u1, u2⟩ := al.2.2 _ _ e3
  have hB : Blank ST x D P.U := ⟨hD, ⟨knV, fun q hq => by rw [hq] at obV; cases obV⟩, by rw [al.findClass]; exact e2, kU, u1, by rw [u2]; exact i3, by rw [u2]; exact e5 i3⟩
  have F1 : Found ST "value" "[B" fV P.U := ⟨SBG.found_only al ⟨cfV, kV, iV, gV⟩, stV⟩
  have F2 : Found ST "coder" "B" fC P.U := ⟨SBG.found_only al ⟨cfC, kC, iC, gC⟩, stC⟩
  have hA : Ch b A P.U := ⟨⟨K.1, State.isArrayOf_alike al K.2.1, K.2.2, by omega⟩, hty⟩
  have hS : StaticIs P.U ST "COMPACT_STRINGS" "Z" (.int z) := by
    obtain ⟨cfS, iS, kS, fS, st, cS, t1, t2, t3, t4, t5, t6, t7⟩ := S
    exact StaticIs.there (s := { Z with heap := P.U.heap }) ⟨cfS, iS, kS, fS, st, cS, t1, t2, t3, t4, t5, (fun q => by rw [q] at t6; cases t6), t7⟩ al rfl
  obtain ⟨v, B, X', ⟨⟨hv, E', V', q1, q2, q3, q4, q5, q6, q7, q8, q9, q10, q11⟩, hl, hc, hs⟩, st⟩ := New1.pays x D fV fC b A z (tab_of (moved hZ hw)) hfr hlo m meth c P g ig mk _ X hg hsize hdg hW hn ⟨r1, r2, rfl, hB, F1, F2, hA, hS, hz, l0, l2, hp⟩
  have al' : Z.vm.Alike B.U.vm := hZ.alike.trans X'.warmed.alike
  have hsz : E'.slots.size = D.slots.size := by
    obtain ⟨-, -, -, kB, w1, w2, w3⟩ := q1
    obtain ⟨kB', y1, y2⟩ := al'.2.2 _ _ e3
    rw [q2.2.1] at w1
    cases w1.symm.trans y1
    rw [w3, e5 i3, y2]
  refine ⟨v, B, X', ⟨_, ⟨hv, ?_, ⟨by omega, fun y cy hy hn' => q10 y cy (by simpa using hn') hy, fun y cy hy => ?_⟩, q11, ⟨E', _, q1.1, by rw [q2.2.1]; exact e2, by rw [q2.2.1]; exact e3, by rw [q2.1]; exact obV, fun _ => by rw [hsz]; exact e5 i3⟩,
    ⟨E', cfV, kV, iV, fV, q1.1, gV, stV, by rw [q2.1]; exact knV, by rw [q2.1]; exact obV, by rw [q2.2.1]; exact asV, q3⟩, ⟨E', cfC, kC, iC, fC, q1.1, gC, stC, by rw [q2.1]; exact knV, by rw [q2.1]; exact obV, by rw [q2.2.1]; exact asC, q4⟩,
    ⟨V', ⟨q5.1, State.isArrayOf_alike al'.symm q5.2.1, q5.2.2.1⟩, q6, by rw [← al'.findClass]; exact q7, q8, fun j hj => by have := q9 j hj; rwa [Nat.zero_add] at this⟩, fun O n d w F n1 n2 => ?_⟩, hl, hc, hs⟩, st⟩
  · intro y hy
    simp only [List.mem_cons, List.not_mem_nil, or_false] at hy
    rcases hy with rfl | rfl <;> rfl
  · by_cases q : y = x
    · subst q
      cases hD.symm.trans hy
      exact ⟨E', q1.1, q2.2.1, q2.1, hsz⟩
    · exact ⟨cy, q10 y cy q hy, rfl, rfl, rfl⟩
  · obtain ⟨D3, cf, k, i, f, g1, g2, g3, g4, g5, g6, g7⟩ := F
    cases hD.symm.trans g1
    simp only [RoadKit.slotOf, g2, gV, gC, Option.map_some, Option.getD_some] at n1 n2
    exact ⟨E', cf, k, i, f, q1.1, g2, g3, by rw [q2.1]; exact g4, by rw [q2.1]; exact g5, by rw [q2.2.1]; exact g6, by rw [q2.2.2 f.slot (by simp [n1, n2])]; exact g7⟩
end StrChars.Road
namespace StrChars.Road
open Jvm Sem ClassFile Op Lib Jvm.Stand Jvm.Free Jvm.Free.XT
/-- WHAT COMES BACK, the byte[] as a list of values -/
def QA (Z : State) (x : Addr) (zn : Int32) (cs : List Int32) (h : Heap) (v : Option Value) (h' : Heap) (L : List Loc) : Prop := v = none ∧ (∀ y ∈ L, y.base = x) ∧ RoadKit.Keep h h' [x] ∧ h'.size = h.size + 1 ∧ RoadKit.Exa Z h' x ST ∧ RoadKit.Fld Z h' x ST "value" "[B" (.ref h.size) ∧ RoadKit.Fld Z h' x ST "coder" "B" (.int 0) ∧
  (∃ kb, Z.vm.findClass "[B" = some kb ∧ RoadKit.Arv Z h' h.size kb .byte zn (cs.map fun c => .int (lo8 c)) (.int 0)) ∧
  ∀ (O n d : String) (w : Value), RoadKit.Fld Z h x O n d w → RoadKit.slotOf Z O n d ≠ RoadKit.slotOf Z ST "value" "[B" → RoadKit.slotOf Z O n d ≠ RoadKit.slotOf Z ST "coder" "B" → RoadKit.Fld Z h' x O n d w
/-- **new String(chars) AT A CALL, THE ARRAYS AS LISTS**: the char[] at b holds cs, not empty, no char above 255 -/
theorem backArv {p : Program} {l : Launch} {e : Env} {R : Room} {s : State} {args : Array Value} {below : List Frame} {len W : Nat} {Z : State} {a0 : Array Value} {h : Heap} (hZ : Z.Warmed39 s.vm) (hw : ∀ d ∈ words, d.before a0 Z = true) {kI : Nat} (wi : (Jvm.Cond.instantiable ST kI).before a0 Z = true)
    {x b : Addr} {k : ClassId} {zn z : Int32} {cs : List Int32} {dv v0 c0 : Value} (E : RoadKit.Exa Z h x ST) (V : RoadKit.Fld Z h x ST "value" "[B" v0) (C : RoadKit.Fld Z h x ST "coder" "B" c0) (K : RoadKit.Arv Z h b k .char zn (cs.map Value.int) dv) (S : RoadKit.Sta Z h ST "COMPACT_STRINGS" "Z" (.int z)) (hz : ¬ z = 0)
    (hlen : zn.toNatClampNeg = cs.length) (h0 : 0 < cs.length) (hbig : cs.length ≤ 536870912) (hall : ∀ c ∈ cs, ¬ 255 < c) (hfr : 4 ≤ R.frames) (hlo : W + 65 ≤ R.locals) :
    Back l R p e below s args New1.yN len W (fun P a => a = #[.ref x, .ref b] ∧ P.U.heap = h ∧ P.cells + 1 ≤ R.cells ∧ P.slots + cs.length ≤ R.slots)
      (fun P _ v B => ∃ L, QA Z x zn cs h v B.U.heap L ∧ B.locs = P.locs ++ L ∧ B.cells = P.cells + 1 ∧ B.slots = P.slots + cs.length) := by
  obtain ⟨A, K1, K2, K3, K4, K5, K6⟩ := K
  have e : A.slots.size = cs.length := K3.trans hlen
  have hat : ∀ (i : Nat) (hi : i < cs.length), A.slots[i]? = some (.int cs[i]) := fun i hi => by rw [K5 i (by omega)]; simp [List.getD_eq_getElem?_getD, hi]
  have hcv : ∀ (i : Nat) (hi : i < cs.length), cv A i = cs[i] := fun i hi => by unfold cv; rw [hat i hi]
  have hty : Typed .char A := fun i v hv => by
    have hi : i < A.slots.size := (Array.getElem?_eq_some_iff.mp hv).1
    have q := K5 i hi
    rw [hv] at q
    rw [Option.some.inj q]
    exact K6 i hi
  refine Back.mono (back hZ hw wi E V C K1 hty S hz (by omega) (by omega) (fun i hi => by rw [hcv i (by omega)]; exact hall _ (List.getElem_mem _)) hfr hlo) (fun P a hp => ⟨hp.1, hp.2.1, hp.2.2.1, by rw [e]; exact hp.2.2.2⟩) (fun P a v B hp hq => ?_)
  obtain ⟨L, ⟨q1, q2, q3, q4, q5, q6, q7, ⟨V', v1, v2, v3, v4, v5⟩, q9⟩, hl, hc, hs⟩ := hq
  refine ⟨L, ⟨q1, q2, q3, q4, q5, q6, q7, ⟨V'.cls, v3, V', v1, rfl, by rw [v4, e, hlen], K4, fun i hi => ?_, fun i hi => ?_⟩, q9⟩, hl, hc, by rw [hs, e]⟩
  · have hi' : i < cs.length := by omega
    rw [v5 i (by omega), hcv i hi']; simp [List.getD_eq_getElem?_getD, hi']
  · have hi' : i < cs.length := by omega
    simp only [List.getD_eq_getElem?_getD, List.getElem?_map, List.getElem?_eq_getElem hi', Option.map_some, Option.getD_some]
    exact fits_lo8 _
end StrChars.Road
namespace StrChars.Road
open Jvm Sem ClassFile Op Lib Jvm.Stand Jvm.Free Jvm.Free.XT
/-- WHAT COMES BACK, in the writer's own shape -/
def QV (Z : State) (x : Addr) (N : Int32) (bs : List Int32) (h : Heap) (n0 : Nat) (v : Option Value) (h' : Heap) (L : List Loc) : Prop := v = none ∧ RoadKit.Fr n0 L ∧ RoadKit.Keep h h' [x] ∧ RoadKit.Exa Z h' x ST ∧ RoadKit.Fld Z h' x ST "coder" "B" (.int 0) ∧
  ∃ (t : Addr) (kb : ClassId), n0 ≤ t ∧ h.size ≤ t ∧ ¬ t = x ∧ RoadKit.Fld Z h' x ST "value" "[B" (.ref t) ∧ RoadKit.Arv Z h' t kb .byte N (bs.map Value.int) (.int 0)
/-- **new String(chars) AT A CALL, FOR THE WRITER**: a char[] of n known ints, each 0 to 255 -/
theorem backV {p : Program} {l : Launch} {e : Env} {R : Room} {s : State} {args : Array Value} {below : List Frame} {len W : Nat} {Z : State} {a0 : Array Value} {h : Heap} (hZ : Z.Warmed39 s.vm) (hw : ∀ d ∈ words, d.before a0 Z = true) {kI : Nat} (wi : (Jvm.Cond.instantiable ST kI).before a0 Z = true)
    {x b : Addr} {kC : ClassId} {cs bs : List Int32} {d v0 c0 : Value} {z N : Int32} {n n0 : Nat} (hx0 : n0 ≤ x) (hh0 : n0 ≤ h.size) (E : RoadKit.Exa Z h x ST) (V : RoadKit.Fld Z h x ST "value" "[B" v0) (C : RoadKit.Fld Z h x ST "coder" "B" c0) (K : RoadKit.Arv Z h b kC .char N (cs.map Value.int) d) (S : RoadKit.Sta Z h ST "COMPACT_STRINGS" "Z" (.int z)) (hz : ¬ z = 0)
    (hn : cs.length = n) (hN : N = Int32.ofNat n) (l0 : 0 < n) (l2 : n ≤ 4000) (hp : ∀ c ∈ cs, ¬ c < 0 ∧ ¬ (255 : Int32) < c) (hb : bs = cs.map (fun c => c.toInt8.toInt32)) (hfr : 4 ≤ R.frames) (hlo : W + 65 ≤ R.locals) :
    Back l R p e below s args (⟨"java/lang/String", "<init>", "([C)V"⟩ : MethodName) len W (fun P a => a = #[.ref x, .ref b] ∧ P.U.heap = h ∧ P.cells + 1 ≤ R.cells ∧ P.slots + n ≤ R.slots)
      (fun P _ v B => ∃ L, QV Z x N bs h n0 v B.U.heap L ∧ B.locs = P.locs ++ L ∧ B.cells = P.cells + 1 ∧ B.slots = P.slots + n) := by
  subst hn hN hb
  refine Back.mono (backArv hZ hw wi E V C K S hz (n32 (by omega)) l0 (by omega) (fun c hc => (hp c hc).2) hfr hlo) (fun P a hp => hp) (fun P a v B hp hq => ?_)
  obtain ⟨L, ⟨q1, q2, q3, q4, q5, q6, q7, ⟨kb, v1, v2⟩, q9⟩, hl, hc, hs⟩ := hq
  exact ⟨L, ⟨q1, fun y hy => by rw [q2 y hy]; exact hx0, q3, q5, q7, h.size, kb, hh0, Nat.le_refl _, Nat.ne_of_gt E.lt, q6, by rw [List.map_map]; exact v2⟩, hl, hc, hs⟩
end StrChars.Road
namespace StrChars
open Jvm Sem ClassFile Op Lib Jvm.Stand Jvm.Free.XT Jvm.Free.ALB Jvm.Free.JM Jvm.Free
open Jvm.Lib.Cold (StaticIs)
def hi8 (x : Int32) : Int32 := lo8 (x >>> ((8 : Int32) &&& 31))
end StrChars
namespace StrChars.Road
open Jvm Sem ClassFile Op Lib Jvm.Stand Jvm.Free Jvm.Free.XT
open Jvm.Lib.Cold (StaticIs)
/-- the bytes of the chars cs, low before high -/
def wideBytes : List Int32 → List Value
  | [] => []
  | c :: cs => .int (lo8 c) :: .int (hi8 c) :: wideBytes cs
/-- an array of N2 bytes vs codes the chars cs by the coder cd -/
def CodA (cs : List Int32) (cd N2 : Int32) (vs : List Value) : Prop := (cd = 0 ∧ N2 = Int32.ofNat cs.length ∧ vs = (cs.map fun c => Value.int (lo8 c)) ∧ ∀ c ∈ cs, ¬ 255 < c) ∨ (cd = 1 ∧ N2 = Int32.ofNat (2 * cs.length) ∧ vs = wideBytes cs ∧ ∃ c ∈ cs, 255 < c)
end StrChars.Road
namespace StrChars
open Jvm Sem ClassFile Op Lib Jvm.Stand Jvm.Free.XT Jvm.Free.ALB Jvm.Free.JM Jvm.Free
open Jvm.Lib.Cold (StaticIs)
theorem lo8_inj {x y : Int32} (h0 : ¬ x < 0) (h1 : ¬ 255 < x) (k0 : ¬ y < 0) (k1 : ¬ 255 < y) (h : lo8 x = lo8 y) : x = y := by
  rw [← lo8_mask h0 h1, ← lo8_mask k0 k1, h]
end StrChars
namespace StrChars.Road
open Jvm Sem ClassFile Op Lib Jvm.Stand Jvm.Free Jvm.Free.XT
open Jvm.Lib.Cold (StaticIs)
/-- what backV says of its String, as the contracts of this text ask it: cs's low bytes, coder 0 -/
theorem codOf {cs : List Int32} {n : Nat} (hn : cs.length = n) (hb : ∀ c ∈ cs, ¬ 255 < c) : CodA cs 0 (Int32.ofNat n) ((cs.map lo8).map Value.int) := Or.inl ⟨rfl, by rw [hn], by simp [List.map_map, Function.comp_def], hb⟩
end StrChars.Road
end Jvm.Pilot.@@N@@
namespace Jvm.Pilot.@@N@@
open Jvm Jvm.ClassFile Sem Op Lib Jvm.Free Jvm.Stand Jvm.LawKit Jvm.RoadKit Bundle Jvm.Pilot.@@N@@.Jvm.D
section OwnKit
variable {p : Program} {l : Launch} {e : Env} {R : Room} {s : State} {m : MethodId} {args : Array Value} {below : List Frame} {meth : Method} {c : Code} {T : State} {locs : List Loc} {cells slots : Nat} {Z : State} {a0 : Array Value} {h : Heap} {kc ks : Nat} {Q : Option Value → Heap → List Loc → Prop}
theorem own_retI (X : Stand p l e R s m args below meth c T locs cells slots) (hx : p.tables.exec = Jvm.exec) {pc : Nat} {Ls : Array Slot} {z : Int32} {rest : List Value} (hret : meth.sig.returnType = some .int) (hd : decode c.code pc = .ok (.ireturn, 1)) {fs : List Frame}
    (hl : ∀ (f : JFrame) (acts : List Action), f.method = m → f.locked = none → f.entered = [] → (doReturn e (T.setTop f) acts (some (.int z))).1 = T.setFrames fs) : Steps p.tables e below (T.setTop (mkF m pc Ls (.int z :: rest))) (T.setFrames fs) := by
  have hm' : T.vm.method? m = some meth := X.method'
  have hn : narrow .int (.int z) = .int z := rfl
  show Steps p.tables e below (T.setTop { method := m, pc := pc, locals := Ls, stack := _ :: rest, locked := none }) _
  jvm_step X.here [X.here.top, hx, hd, hm', hret, hn]
  first | (intro acts; rw [hl _ acts rfl rfl rfl]) | rw [hl _ _ rfl rfl rfl]
  exact Steps.refl _
theorem own_retR (X : Stand p l e R s m args below meth c T locs cells slots) (hx : p.tables.exec = Jvm.exec) {pc : Nat} {Ls : Array Slot} {w : Value} {t : FieldType} {rest : List Value} (hret : meth.sig.returnType = some t) (ht : t.isReference = true) (hw : w.isRef = true) (hd : decode c.code pc = .ok (.areturn, 1)) {fs : List Frame}
    (hl : ∀ (f : JFrame) (acts : List Action), f.method = m → f.locked = none → f.entered = [] → (doReturn e (T.setTop f) acts (some w)).1 = T.setFrames fs) : Steps p.tables e below (T.setTop (mkF m pc Ls (w :: rest))) (T.setFrames fs) :=
  retOut X hx (i := .areturn) hret (by rcases ref_cases hw with rfl | ⟨z, rfl⟩ <;> cases t <;> first | rfl | (cases ht; done)) (Or.inr (Or.inr (Or.inr (Or.inr ⟨rfl, ht, hw⟩)))) hd hl
/-- what is left of a walk: from the frame g over T the invocation comes back, and Q says with what -/
def own_Go (p : Program) (e : Env) (below : List Frame) (s : State) (kc ks : Nat) (Q : Option Value → Heap → List Loc → Prop) (T : State) (g : JFrame) : Prop :=
  ∃ U o, Steps p.tables e below (T.setTop g) U ∧ U.status = .running ∧ Ended U below o ∧ ∃ v L, o = .returned v ∧ Q v U.heap L ∧ FrameEnd s o U L kc ks
theorem own_st {T T' : State} {g g' : JFrame} (st : ∀ t, Steps p.tables e below (T'.setTop g') t → Steps p.tables e below (T.setTop g) t) (k : own_Go p e below s kc ks Q T' g') : own_Go p e below s kc ks Q T g := by
  obtain ⟨U, o, a, b⟩ := k
  exact ⟨U, o, st _ a, b⟩
theorem own_goI (X : Stand p l e R s m args below meth c T locs cells slots) (hlk : meth.locks = false) (hx : p.tables.exec = Jvm.exec) {pc : Nat} {Ls : Array Slot} {z : Int32} {rest : List Value} (hret : meth.sig.returnType = some .int) (hd : decode c.code pc = .ok (.ireturn, 1))
    (hQ : Q (some (.int z)) T.heap locs) (h1 : cells ≤ kc) (h2 : slots ≤ ks) : own_Go p e below s kc ks Q T (mkF m pc Ls (.int z :: rest)) := by
  obtain ⟨fs, hr, hrun, hended, hW, hsame⟩ := X.leave (v := some (.int z)) (fun h => by rw [hret] at h; cases h) hlk
  exact ⟨_, _, own_retI X hx hret hd hr, hrun, hended, _, _, rfl, hQ, ⟨_, rfl⟩, hW, hsame.mono h1 h2⟩
theorem own_goN (X : Stand p l e R s m args below meth c T locs cells slots) (hlk : meth.locks = false) (hx : p.tables.exec = Jvm.exec) {pc : Nat} {Ls : Array Slot} {z : Int32} {rest : List Value} {t : FieldType} (ht : t = .boolean ∨ t = .byte ∨ t = .char ∨ t = .short) (hret : meth.sig.returnType = some t) (hd : decode c.code pc = .ok (.ireturn, 1))
    (hQ : Q (some (.int (nar t z))) T.heap locs) (h1 : cells ≤ kc) (h2 : slots ≤ ks) : own_Go p e below s kc ks Q T (mkF m pc Ls (.int z :: rest)) := by
  obtain ⟨fs, hr, hrun, hended, hW, hsame⟩ := X.leave (v := some (.int (nar t z))) (fun h => by rw [hret] at h; cases h) hlk
  exact ⟨_, _, retN X hx hret ht hd hr, hrun, hended, _, _, rfl, hQ, ⟨_, rfl⟩, hW, hsame.mono h1 h2⟩
theorem own_goR (X : Stand p l e R s m args below meth c T locs cells slots) (hlk : meth.locks = false) (hx : p.tables.exec = Jvm.exec) {pc : Nat} {Ls : Array Slot} {w : Value} {rest : List Value} {t : FieldType} (ht : t.isReference = true) (hw : w.isRef = true) (hret : meth.sig.returnType = some t) (hd : decode c.code pc = .ok (.areturn, 1))
    (hQ : Q (some w) T.heap locs) (h1 : cells ≤ kc) (h2 : slots ≤ ks) : own_Go p e below s kc ks Q T (mkF m pc Ls (w :: rest)) := by
  obtain ⟨fs, hr, hrun, hended, hW, hsame⟩ := X.leave (v := some w) (fun h => by rw [hret] at h; cases h) hlk
  exact ⟨_, _, own_retR X hx hret ht hw hd hr, hrun, hended, _, _, rfl, hQ, ⟨_, rfl⟩, hW, hsame.mono h1 h2⟩
theorem own_goV (X : Stand p l e R s m args below meth c T locs cells slots) (hlk : meth.locks = false) (hx : p.tables.exec = Jvm.exec) {pc : Nat} {Ls : Array Slot} (hret : meth.sig.returnType = none) (hd : decode c.code pc = .ok (.return_, 1))
    (hQ : Q none T.heap locs) (h1 : cells ≤ kc) (h2 : slots ≤ ks) : own_Go p e below s kc ks Q T (mkF m pc Ls []) := by
  obtain ⟨fs, hr, hrun, hended, hW, hsame⟩ := X.leave (v := none) (fun _ => rfl) hlk
  exact ⟨_, _, X.returnOut hx hret hd hr, hrun, hended, _, _, rfl, hQ, ⟨_, rfl⟩, hW, hsame.mono h1 h2⟩
theorem own_goJ (X : Stand p l e R s m args below meth c T locs cells slots) (hlk : meth.locks = false) (hx : p.tables.exec = Jvm.exec) {pc : Nat} {Ls : Array Slot} {w : Int64} {rest : List Value} (hret : meth.sig.returnType = some .long) (hd : decode c.code pc = .ok (.lreturn, 1))
    (hQ : Q (some (.long w)) T.heap locs) (h1 : cells ≤ kc) (h2 : slots ≤ ks) : own_Go p e below s kc ks Q T (mkF m pc Ls (.long w :: rest)) := by
  obtain ⟨fs, hr, hrun, hended, hW, hsame⟩ := X.leave (v := some (.long w)) (fun h => by rw [hret] at h; cases h) hlk
  exact ⟨_, _, retOut X hx (i := .lreturn) hret rfl (Or.inr (Or.inl ⟨rfl, rfl, _, rfl⟩)) hd hr, hrun, hended, _, _, rfl, hQ, ⟨_, rfl⟩, hW, hsame.mono h1 h2⟩
/-- an array's component -/
theorem own_cald (X : Stand p l e R s m args below meth c T locs cells slots) (hx : p.tables.exec = Jvm.exec) (hZ : Z.Warmed39 s.vm) (eT : T.heap = h) {a : Addr} {k : ClassId} {n j v : Int32} {vs : List Value} {d : Value} (V : Arv Z h a k .char n vs d) (hj : ¬ j < 0 ∧ j < n) (hv : vs.getD j.toNatClampNeg d = .int v)
    {pc : Nat} {Ls : Array Slot} {rest : List Value} (hd : decode c.code pc = .ok (.caload, 1)) : ∀ t, Steps p.tables e below (T.setTop (mkF m (pc + 1) Ls (.int v :: rest))) t → Steps p.tables e below (T.setTop (mkF m pc Ls (.int j :: .ref a :: rest))) t := by
  obtain ⟨cl, A, -, S, -, H, -⟩ := V
  have hin := inb_of S hj
  exact fun t q => X.caload hx (j := j) (v := .int v) (by rw [eT]; exact A.1) (State.isArrayOf_alike hZ.alike A.2.1) A.2.2 hin (Has.at H hin hv) (g := mkF m pc Ls (.int j :: .ref a :: rest)) rfl rfl hd t q
theorem own_bald (X : Stand p l e R s m args below meth c T locs cells slots) (hx : p.tables.exec = Jvm.exec) (hZ : Z.Warmed39 s.vm) (eT : T.heap = h) {a : Addr} {k : ClassId} {n j v : Int32} {vs : List Value} {d : Value} (V : Arv Z h a k .byte n vs d) (hj : ¬ j < 0 ∧ j < n) (hv : vs.getD j.toNatClampNeg d = .int v)
    {pc : Nat} {Ls : Array Slot} {rest : List Value} (hd : decode c.code pc = .ok (.baload, 1)) : ∀ t, Steps p.tables e below (T.setTop (mkF m (pc + 1) Ls (.int v :: rest))) t → Steps p.tables e below (T.setTop (mkF m pc Ls (.int j :: .ref a :: rest))) t := by
  obtain ⟨cl, A, -, S, -, H, -⟩ := V
  have hin := inb_of S hj
  exact fun t q => X.baloadBytes hx (j := j) (v := .int v) (by rw [eT]; exact A.1) (State.isArrayOf_alike hZ.alike A.2.1) A.2.2 hin (Has.at H hin hv) (g := mkF m pc Ls (.int j :: .ref a :: rest)) rfl rfl hd t q
theorem own_alen (X : Stand p l e R s m args below meth c T locs cells slots) (hx : p.tables.exec = Jvm.exec) (hZ : Z.Warmed39 s.vm) (eT : T.heap = h) {a : Addr} {k : ClassId} {n : Int32} {vs : List Value} {d : Value} {ty : FieldType} (V : Arv Z h a k ty n vs d)
    {pc : Nat} {Ls : Array Slot} {rest : List Value} (hd : decode c.code pc = .ok (.arraylength, 1)) : ∀ t, Steps p.tables e below (T.setTop (mkF m (pc + 1) Ls (.int n :: rest))) t → Steps p.tables e below (T.setTop (mkF m pc Ls (.ref a :: rest))) t := by
  obtain ⟨cl, A, -, S, N, H, -⟩ := V
  refine fun t q => X.arraylength hx (by rw [eT]; exact A.1) (State.isArrayOf_alike hZ.alike A.2.1) (g := mkF m pc Ls (.ref a :: rest)) rfl rfl hd t ?_
  rw [len_of S N]
  exact q
/-- a char's store -/
theorem own_cast (X : Stand p l e R s m args below meth c T locs cells slots) (hx : p.tables.exec = Jvm.exec) (hZ : Z.Warmed39 s.vm) (eT : T.heap = h) {a : Addr} {k : ClassId} {n j x : Int32} {vs : List Value} {d : Value} (V : Arv Z h a k .char n vs d) (hj : ¬ j < 0 ∧ j < n) (i : Nat) (hi : j.toNatClampNeg = i) (hl : i < vs.length)
    {pc : Nat} {Ls : Array Slot} {rest : List Value} (hd : decode c.code pc = .ok (.castore, 1)) : ∃ T' h', Stand p l e R s m args below meth c T' (locs ++ [⟨a, j.toNatClampNeg⟩]) cells slots ∧ T'.heap = h' ∧ Arv Z h' a k .char n (vs.set i (.int (nar .char x))) d ∧ Wr h h' a j.toNatClampNeg (.int (nar .char x)) ∧
      ∀ t, Steps p.tables e below (T'.setTop (mkF m (pc + 1) Ls rest)) t → Steps p.tables e below (T.setTop (mkF m pc Ls (.int x :: .int j :: .ref a :: rest))) t := by
  obtain ⟨cl, A, q, S, N, H, G⟩ := V
  obtain ⟨T', h', X', e', W, st⟩ := stC X hx hZ eT A (j := j) (x := x) (inb_of S hj) (g := mkF m pc Ls (.int x :: .int j :: .ref a :: rest)) rfl rfl hd
  exact ⟨T', h', X', e', Arv.set A q S N H G (fits_nar_char _) W i hi hl, W, st⟩
theorem own_bast (X : Stand p l e R s m args below meth c T locs cells slots) (hx : p.tables.exec = Jvm.exec) (hZ : Z.Warmed39 s.vm) (eT : T.heap = h) {a : Addr} {k : ClassId} {n j x : Int32} {vs : List Value} {d : Value} (V : Arv Z h a k .byte n vs d) (hj : ¬ j < 0 ∧ j < n) (i : Nat) (hi : j.toNatClampNeg = i) (hl : i < vs.length)
    {pc : Nat} {Ls : Array Slot} {rest : List Value} (hd : decode c.code pc = .ok (.bastore, 1)) : ∃ T' h', Stand p l e R s m args below meth c T' (locs ++ [⟨a, j.toNatClampNeg⟩]) cells slots ∧ T'.heap = h' ∧ Arv Z h' a k .byte n (vs.set i (.int (nar .byte x))) d ∧ Wr h h' a j.toNatClampNeg (.int (nar .byte x)) ∧
      ∀ t, Steps p.tables e below (T'.setTop (mkF m (pc + 1) Ls rest)) t → Steps p.tables e below (T.setTop (mkF m pc Ls (.int x :: .int j :: .ref a :: rest))) t := by
  obtain ⟨cl, A, q, S, N, H, G⟩ := V
  obtain ⟨T', h', X', e', W, st⟩ := stB X hx hZ eT A (j := j) (x := x) (inb_of S hj) (g := mkF m pc Ls (.int x :: .int j :: .ref a :: rest)) rfl rfl hd
  exact ⟨T', h', X', e', Arv.set A q S N H G (fits_nar_byte _) W i hi hl, W, st⟩
/-- the premise of a call, in the one form of this text -/
abbrev own_Bk (l : Launch) (R : Room) (p : Program) (e : Env) (below : List Frame) (s : State) (args : Array Value) (y : MethodName) (W : Nat) (h : Heap) (as' : Array Value) (dc ds : Nat) (Q : Option Value → Heap → List Loc → Prop) : Prop :=
  Back l R p e below s args y 3 W (fun A a => a = as' ∧ A.U.heap = h ∧ A.cells + dc ≤ R.cells ∧ A.slots + ds ≤ R.slots) (fun A _ v B => ∃ L, Q v B.U.heap L ∧ B.locs = A.locs ++ L ∧ B.cells = A.cells + dc ∧ B.slots = A.slots + ds)
/-- a static call -/
theorem own_cS (X : Stand p l e R s m args below meth c T locs cells slots) (hx : p.tables.exec = Jvm.exec) (hZ : Z.Warmed39 s.vm) {own : String} {index : Nat} {y : MethodName} {bytes : ByteArray} {maxL : Nat} {ret : Option FieldType} (hown : s.vm.findClass own = some m.cls)
    (w1 : (Cond.methodLink own index y).before a0 Z = true) (w2 : (Cond.static y).before a0 Z = true) (w3 : (Cond.initialized y.cls).before a0 Z = true) (w4 : (Cond.code y bytes maxL ret).before a0 Z = true) (hy : y.cls ≠ "java/lang/invoke/MethodHandle" ∧ y.cls ≠ "java/lang/invoke/VarHandle") (eT : T.heap = h)
    {W dc ds : Nat} {Qc : Option Value → Heap → List Loc → Prop} {argsL rest : List Value} (hK : own_Bk l R p e below s args y W h argsL.toArray dc ds Qc) {pc : Nat} {Ls : Array Slot} {stk : List Value} (hsize : Ls.size = c.maxLocals) (hlen : ∀ sig, parseMethodDescriptor y.desc = some sig → argsL.length = sig.parameters.length)
    (hstk : stk = argsL.reverse ++ rest) (hW : (rest.map fun v => v.category).sum ≤ W) (hd : decode c.code pc = .ok (.invokestatic index, 3)) (h1 : cells + dc ≤ R.cells) (h2 : slots + ds ≤ R.slots) :
    ∃ v L T', Stand p l e R s m args below meth c T' (locs ++ L) (cells + dc) (slots + ds) ∧ Qc v T'.heap L ∧ ∀ t, Steps p.tables e below (T'.setTop (mkF m (pc + 3) Ls (v.toList ++ rest))) t → Steps p.tables e below (T.setTop (mkF m pc Ls stk)) t := by
  obtain ⟨v, _, ⟨T', L', k', n'⟩, -, X', ⟨L, hQ, q1, q2, q3⟩, st⟩ := Jvm.LawKit.callS X hx (y := y) hown (mvT hZ w1) (mvT hZ w2) (mvT hZ w3) (mvT hZ w4) hy hK (g := mkF m pc Ls stk) rfl hsize (argsL := argsL) (rest := rest) hlen hstk (by simpa using hW) hd (fun _ _ => ⟨rfl, eT, h1, h2⟩)
  dsimp only [Pt.U, Pt.locs, Pt.cells, Pt.slots] at X' hQ q1 q2 q3 st
  subst q1 q2 q3
  exact ⟨v, L, T', X', hQ, st⟩
/-- a virtual call of the method that the receiver's class selects -/
theorem own_cV (X : Stand p l e R s m args below meth c T locs cells slots) (hx : p.tables.exec = Jvm.exec) (hZ : Z.Warmed39 s.vm) {own C : String} {index : Nat} {y z : MethodName} (hown : s.vm.findClass own = some m.cls)
    (w1 : (Cond.methodLink own index y).before a0 Z = true) (w2 : (Cond.declares y).before a0 Z = true) (hnf : NotFace s y) (w3 : (Cond.selects C y z).before a0 Z = true) (w4 : (Cond.instanceMethod z).before a0 Z = true) (hy : y.cls ≠ "java/lang/invoke/MethodHandle" ∧ y.cls ≠ "java/lang/invoke/VarHandle") (eT : T.heap = h)
    {b : Addr} (E : Exa Z h b C) {W dc ds : Nat} {Qc : Option Value → Heap → List Loc → Prop} {argsL rest : List Value} (hK : own_Bk l R p e below s args z W h (Value.ref b :: argsL).toArray dc ds Qc) {pc : Nat} {Ls : Array Slot} {stk : List Value} (hsize : Ls.size = c.maxLocals) (hlen : ∀ sig, parseMethodDescriptor y.desc = some sig → argsL.length = sig.parameters.length)
    (hstk : stk = argsL.reverse ++ .ref b :: rest) (hW : (rest.map fun v => v.category).sum ≤ W) (hd : decode c.code pc = .ok (.invokevirtual index, 3)) (h1 : cells + dc ≤ R.cells) (h2 : slots + ds ≤ R.slots) :
    ∃ v L T', Stand p l e R s m args below meth c T' (locs ++ L) (cells + dc) (slots + ds) ∧ Qc v T'.heap L ∧ ∀ t, Steps p.tables e below (T'.setTop (mkF m (pc + 3) Ls (v.toList ++ rest))) t → Steps p.tables e below (T.setTop (mkF m pc Ls stk)) t := by
  obtain ⟨cq, kq, qa, qb, qc⟩ := isOf hZ eT E
  obtain ⟨v, _, ⟨T', L', k', n'⟩, -, X', ⟨L, hQ, q1, q2, q3⟩, st⟩ := X.virtualBack hx (y := y) (z := z) hown (mvT hZ w1) (mvT hZ w2) hnf (mvT hZ w3) (mvT hZ w4) hy hK qa qc (g := mkF m pc Ls stk) rfl hsize (Steps.refl _) (argsL := argsL) (rest := rest) hlen hstk (by simpa using hW) hd (fun _ _ => ⟨rfl, eT, h1, h2⟩)
  dsimp only [Pt.U, Pt.locs, Pt.cells, Pt.slots] at X' hQ q1 q2 q3 st
  subst q1 q2 q3
  exact ⟨v, L, T', X', hQ, fun t q => st.trans q⟩
/-- a constructor's call -/
theorem own_cI (X : Stand p l e R s m args below meth c T locs cells slots) (hx : p.tables.exec = Jvm.exec) (hZ : Z.Warmed39 s.vm) {own : String} {index : Nat} {y : MethodName} {bytes : ByteArray} {maxL : Nat} (hn : y.name = "<init>") (hown : s.vm.findClass own = some m.cls)
    (w1 : (Cond.methodLink own index y).before a0 Z = true) (w2 : (Cond.instanceMethod y).before a0 Z = true) (w4 : (Cond.code y bytes maxL none).before a0 Z = true) (hy : y.cls ≠ "java/lang/invoke/MethodHandle" ∧ y.cls ≠ "java/lang/invoke/VarHandle") (eT : T.heap = h)
    {b : Addr} {W dc ds : Nat} {Qc : Option Value → Heap → List Loc → Prop} {argsL rest : List Value} (hK : own_Bk l R p e below s args y W h (Value.ref b :: argsL).toArray dc ds Qc) {pc : Nat} {Ls : Array Slot} {stk : List Value} (hsize : Ls.size = c.maxLocals) (hlen : ∀ sig, parseMethodDescriptor y.desc = some sig → argsL.length = sig.parameters.length)
    (hstk : stk = argsL.reverse ++ .ref b :: rest) (hW : (rest.map fun v => v.category).sum ≤ W) (hd : decode c.code pc = .ok (.invokespecial index, 3)) (h1 : cells + dc ≤ R.cells) (h2 : slots + ds ≤ R.slots) :
    ∃ v L T', Stand p l e R s m args below meth c T' (locs ++ L) (cells + dc) (slots + ds) ∧ Qc v T'.heap L ∧ ∀ t, Steps p.tables e below (T'.setTop (mkF m (pc + 3) Ls (v.toList ++ rest))) t → Steps p.tables e below (T.setTop (mkF m pc Ls stk)) t := by
  obtain ⟨v, _, ⟨T', L', k', n'⟩, -, X', ⟨L, hQ, q1, q2, q3⟩, st⟩ := X.specialBack hx (y := y) hn hown (mvT hZ w1) (mvT hZ w2) (mvT hZ w4) hy hK (g := mkF m pc Ls stk) rfl hsize (Steps.refl _) (a := b) (argsL := argsL) (rest := rest) hlen hstk (by simpa using hW) hd (fun _ _ => ⟨rfl, eT, h1, h2⟩)
  dsimp only [Pt.U, Pt.locs, Pt.cells, Pt.slots] at X' hQ q1 q2 q3 st
  subst q1 q2 q3
  exact ⟨v, L, T', X', hQ, fun t q => st.trans q⟩
/-- behind a call that wrote and made nothing -/
theorem own_pure {pc : Nat} {Ls : Array Slot} {stk rest : List Value} {w : Option Value} (q : ∃ v L T', Stand p l e R s m args below meth c T' (locs ++ L) (cells + 0) (slots + 0) ∧ (v = w ∧ L = [] ∧ T'.heap = h) ∧ ∀ t, Steps p.tables e below (T'.setTop (mkF m (pc + 3) Ls (v.toList ++ rest))) t → Steps p.tables e below (T.setTop (mkF m pc Ls stk)) t) :
    ∃ T', Stand p l e R s m args below meth c T' locs cells slots ∧ T'.heap = h ∧ ∀ t, Steps p.tables e below (T'.setTop (mkF m (pc + 3) Ls (w.toList ++ rest))) t → Steps p.tables e below (T.setTop (mkF m pc Ls stk)) t := by
  obtain ⟨v, L, T', X', ⟨rfl, rfl, e'⟩, st⟩ := q
  exact ⟨T', by simpa using X', e', st⟩
end OwnKit
end Jvm.Pilot.@@N@@
namespace Jvm.Pilot.@@N@@
open Jvm Jvm.ClassFile Sem Op Lib Jvm.Free Jvm.Stand Jvm.LawKit Jvm.RoadKit Bundle Jvm.Pilot.@@N@@.Jvm.D
theorem own_ef0 (m : MethodId) (x0 : Int32) : entryFrame m #[(.int x0)] 2 = mkF m 0 #[.val (.int x0), .unset] [] := by first | rfl | (simp [entryFrame, mkF, argsToLocals, Value.category, maxLocals]; done)
theorem own_pn0 : plainName "com/example/encon/encon/UrlSyntaxUserInfoMayEndAfterPinLaw" = true := by first | (simp [plainName, overriddenIn]; done) | decide +kernel
theorem own_d0_0 : decode method_2_code 0 = .ok (.iload_n 0, 1) := by decide +kernel
theorem own_d0_1 : decode method_2_code 1 = .ok (.iconst 3, 1) := by decide +kernel
theorem own_d0_2 : decode method_2_code 2 = .ok (.iand, 1) := by decide +kernel
theorem own_d0_3 : decode method_2_code 3 = .ok (.istore_n 1, 1) := by decide +kernel
theorem own_d0_4 : decode method_2_code 4 = .ok (.iload_n 1, 1) := by decide +kernel
theorem own_d0_5 : decode method_2_code 5 = .ok (.ifCond .ne 6, 3) := by decide +kernel
theorem own_d0_8 : decode method_2_code 8 = .ok (.bipush 64, 2) := by decide +kernel
theorem own_d0_10 : decode method_2_code 10 = .ok (.ireturn, 1) := by decide +kernel
theorem own_d0_11 : decode method_2_code 11 = .ok (.iload_n 1, 1) := by decide +kernel
theorem own_d0_12 : decode method_2_code 12 = .ok (.iconst 1, 1) := by decide +kernel
theorem own_d0_13 : decode method_2_code 13 = .ok (.if_icmp .ne 6, 3) := by decide +kernel
theorem own_d0_16 : decode method_2_code 16 = .ok (.bipush 47, 2) := by decide +kernel
theorem own_d0_18 : decode method_2_code 18 = .ok (.ireturn, 1) := by decide +kernel
theorem own_d0_19 : decode method_2_code 19 = .ok (.iload_n 0, 1) := by decide +kernel
theorem own_d0_20 : decode method_2_code 20 = .ok (.iconst 2, 1) := by decide +kernel
theorem own_d0_21 : decode method_2_code 21 = .ok (.iushr, 1) := by decide +kernel
theorem own_d0_22 : decode method_2_code 22 = .ok (.sipush 255, 3) := by decide +kernel
theorem own_d0_25 : decode method_2_code 25 = .ok (.iand, 1) := by decide +kernel
theorem own_d0_26 : decode method_2_code 26 = .ok (.i2c, 1) := by decide +kernel
theorem own_d0_27 : decode method_2_code 27 = .ok (.ireturn, 1) := by decide +kernel
def own_f_draw (p0 : Int32) : Int32 := (if (p0 &&& (3 : Int32)) = (0 : Int32) then (64 : Int32) else (if (p0 &&& (3 : Int32)) = (1 : Int32) then (47 : Int32) else (nar .char ((((p0.toUInt32 >>> ((2 : Int32) &&& 31).toUInt32).toInt32) &&& (255 : Int32)).toUInt32.toUInt16.toUInt32.toInt32))))
set_option maxRecDepth 65536 in
set_option maxHeartbeats 40000000 in
theorem own_rm_draw (l : Launch) (Z : State) (a0 : Array Value) (hw : ∀ d ∈ tables_1, d.before a0 Z = true) (ws : List Jvm.Cond) (p0 : Int32) (r : Int32) (h0 : Heap)  (hr : r = (own_f_draw p0)) :
    MetFree l (⟨"com/example/encon/encon/UrlSyntaxUserInfoMayEndAfterPinLaw", "draw", "(I)C"⟩ : MethodName) (head1 (Jvm.Cond.code (⟨"com/example/encon/encon/UrlSyntaxUserInfoMayEndAfterPinLaw", "draw", "(I)C"⟩ : MethodName) method_2_code 2 (some .char) :: ws) ({ frames := 0, cells := 0, slots := 0, locals := 0 } : Room)) (fun aa U => aa = #[(.int p0)] ∧ Z.Warmed39 U.vm ∧ U.heap = h0) (fun _ _ _ _ _ => True) (fun _ U o U' => ∃ v L, o = .returned v ∧ (fun v h L => v = some (.int r) ∧ L = [] ∧ h = h0) v U'.heap L ∧ FrameEnd U o U' L ({ frames := 0, cells := 0, slots := 0, locals := 0 } : Room).cells ({ frames := 0, cells := 0, slots := 0, locals := 0 } : Room).slots) := by
  refine MetFree.of_bodySF (plainFor_of_name own_pn0) hisR ?_
  intro p e s m args below meth c s₁ Bd hml0 hP hK
  obtain ⟨rfl, hZ, hh⟩ := hP
  have hx := Bd.exec
  have hby := Bd.bytes
  have hml : c.maxLocals = 2 := hml0
  have hlk : meth.locks = false := BodyLoose.notSynchronized Bd
  have hown : s.vm.findClass "com/example/encon/encon/UrlSyntaxUserInfoMayEndAfterPinLaw" = some m.cls := findClass_of_methodNamed Bd.named
  have hnm := (name_of_methodNamed Bd.named Bd.method).1
  have X0 : Stand p l e ({ frames := 0, cells := 0, slots := 0, locals := 0 } : Room) s m #[(.int p0)] below meth c s₁ [] 0 0 := Stand.of_body Bd
  have e0 : s₁.heap = h0 := by rw [← hh, Bd.state]; rfl
  rw [own_ef0 m p0]
  show own_Go p e below s ({ frames := 0, cells := 0, slots := 0, locals := 0 } : Room).cells ({ frames := 0, cells := 0, slots := 0, locals := 0 } : Room).slots (fun v h L => v = some (.int r) ∧ L = [] ∧ h = h0) s₁ (mkF m 0 #[.val (.int p0), .unset] [])
  refine own_st (g' := (mkF m 5 #[.val (.int p0), .val (.int (p0 &&& (3 : Int32)))] [(.int (p0 &&& (3 : Int32)))])) (fun _ q => XS.iloadN X0.here hx rfl (hb hby own_d0_0) rfl (XS.iconst X0.here hx rfl (hb hby own_d0_1) (XS.iand X0.here hx rfl (hb hby own_d0_2) rfl (XS.istoreN X0.here hx rfl (hb hby own_d0_3) rfl (l' := #[.val (.int p0), .val (.int (p0 &&& (3 : Int32)))]) rfl (XS.iloadN X0.here hx rfl (hb hby own_d0_4) rfl (q)))))) ?_
  by_cases hc1 : (p0 &&& (3 : Int32)) = (0 : Int32)
  · -- (p0 &&& (3 : Int32)) = (0 : Int32)
    refine own_st (g' := (mkF m 10 #[.val (.int p0), .val (.int (p0 &&& (3 : Int32)))] [(.int (64 : Int32))])) (fun _ q => XS.ifNo X0.here hx rfl (hb hby own_d0_5) rfl ((if0 _ _).trans (teq hc1).2) (XS.bipush X0.here hx rfl (hb hby own_d0_8) (q))) ?_
    exact own_goN X0 hlk hx (t := .char) (by simp) Bd.returns (hb hby own_d0_10) ⟨by subst hr; rw [own_f_draw, if_pos hc1] <;> rfl, rfl, e0⟩ (by decide) (by decide)
  · -- not: (p0 &&& (3 : Int32)) = (0 : Int32)
    refine own_st (g' := (mkF m 13 #[.val (.int p0), .val (.int (p0 &&& (3 : Int32)))] [(.int (1 : Int32)), (.int (p0 &&& (3 : Int32)))])) (fun _ q => XS.ifYes X0.here hx rfl (pc0 := 5) (pc' := 11) rfl (hb hby own_d0_5) rfl ((if0 _ _).trans (feq hc1).2) (by decide) (by decide) (XS.iloadN X0.here hx rfl (hb hby own_d0_11) rfl (XS.iconst X0.here hx rfl (hb hby own_d0_12) (q)))) ?_
    by_cases hc2 : (p0 &&& (3 : Int32)) = (1 : Int32)
    · -- (p0 &&& (3 : Int32)) = (1 : Int32)
      refine own_st (g' := (mkF m 18 #[.val (.int p0), .val (.int (p0 &&& (3 : Int32)))] [(.int (47 : Int32))])) (fun _ q => XS.icmpNo X0.here hx rfl (hb hby own_d0_13) rfl (teq hc2).2 (XS.bipush X0.here hx rfl (hb hby own_d0_16) (q))) ?_
      exact own_goN X0 hlk hx (t := .char) (by simp) Bd.returns (hb hby own_d0_18) ⟨by subst hr; rw [own_f_draw, if_neg hc1, if_pos hc2] <;> rfl, rfl, e0⟩ (by decide) (by decide)
    · -- not: (p0 &&& (3 : Int32)) = (1 : Int32)
      refine own_st (g' := (mkF m 27 #[.val (.int p0), .val (.int (p0 &&& (3 : Int32)))] [(.int ((((p0.toUInt32 >>> ((2 : Int32) &&& 31).toUInt32).toInt32) &&& (255 : Int32)).toUInt32.toUInt16.toUInt32.toInt32))])) (fun _ q => XS.icmpYes X0.here hx rfl (pc0 := 13) (pc' := 19) rfl (hb hby own_d0_13) rfl (feq hc2).2 (by decide) (by decide) (XS.iloadN X0.here hx rfl (hb hby own_d0_19) rfl (XS.iconst X0.here hx rfl (hb hby own_d0_20) (XS.iushr X0.here hx rfl (hb hby own_d0_21) rfl (XS.sipush X0.here hx rfl (hb hby own_d0_22) (XS.iand X0.here hx rfl (hb hby own_d0_25) rfl (XS.i2c X0.here hx rfl (hb hby own_d0_26) rfl (q)))))))) ?_
      exact own_goN X0 hlk hx (t := .char) (by simp) Bd.returns (hb hby own_d0_27) ⟨by subst hr; rw [own_f_draw, if_neg hc1, if_neg hc2] <;> rfl, rfl, e0⟩ (by decide) (by decide)
theorem own_ef1 (m : MethodId) (x0 : Addr) (x1 : Int32) (x2 : Int32) : entryFrame m #[(.ref x0), (.int x1), (.int x2)] 3 = mkF m 0 #[.val (.ref x0), .val (.int x1), .val (.int x2)] [] := by first | rfl | (simp [entryFrame, mkF, argsToLocals, Value.category, maxLocals]; done)
theorem own_d1_0 : decode method_3_code 0 = .ok (.iload_n 1, 1) := by decide +kernel
theorem own_d1_1 : decode method_3_code 1 = .ok (.iload_n 2, 1) := by decide +kernel
theorem own_d1_2 : decode method_3_code 2 = .ok (.if_icmp .ge 5, 3) := by decide +kernel
theorem own_d1_5 : decode method_3_code 5 = .ok (.iconst 0, 1) := by decide +kernel
theorem own_d1_6 : decode method_3_code 6 = .ok (.ireturn, 1) := by decide +kernel
theorem own_d1_7 : decode method_3_code 7 = .ok (.aload_n 0, 1) := by decide +kernel
theorem own_d1_8 : decode method_3_code 8 = .ok (.iload_n 1, 1) := by decide +kernel
theorem own_d1_9 : decode method_3_code 9 = .ok (.caload, 1) := by decide +kernel
theorem own_d1_10 : decode method_3_code 10 = .ok (.bipush 64, 2) := by decide +kernel
theorem own_d1_12 : decode method_3_code 12 = .ok (.if_icmp .ne 5, 3) := by decide +kernel
theorem own_d1_15 : decode method_3_code 15 = .ok (.iconst 1, 1) := by decide +kernel
theorem own_d1_16 : decode method_3_code 16 = .ok (.ireturn, 1) := by decide +kernel
theorem own_d1_17 : decode method_3_code 17 = .ok (.aload_n 0, 1) := by decide +kernel
theorem own_d1_18 : decode method_3_code 18 = .ok (.iload_n 1, 1) := by decide +kernel
theorem own_d1_19 : decode method_3_code 19 = .ok (.caload, 1) := by decide +kernel
theorem own_d1_20 : decode method_3_code 20 = .ok (.bipush 47, 2) := by decide +kernel
theorem own_d1_22 : decode method_3_code 22 = .ok (.if_icmp .ne 5, 3) := by decide +kernel
theorem own_d1_25 : decode method_3_code 25 = .ok (.iconst 2, 1) := by decide +kernel
theorem own_d1_26 : decode method_3_code 26 = .ok (.ireturn, 1) := by decide +kernel
theorem own_d1_27 : decode method_3_code 27 = .ok (.iconst 0, 1) := by decide +kernel
theorem own_d1_28 : decode method_3_code 28 = .ok (.ireturn, 1) := by decide +kernel
def own_f_hit (i fr wv : Int32) : Int32 := (if i < fr then (0 : Int32) else (if wv = (64 : Int32) then (1 : Int32) else (if wv = (47 : Int32) then (2 : Int32) else (0 : Int32))))
set_option maxRecDepth 65536 in
set_option maxHeartbeats 40000000 in
theorem own_rm_hit (l : Launch) (Z : State) (a0 : Array Value) (hw : ∀ d ∈ tables_1, d.before a0 Z = true) (ws : List Jvm.Cond) (a : Addr) (k : ClassId) (n i fr wv : Int32) (vs : List Value) (d : Value) (r : Int32) (h0 : Heap) (V : Arv Z h0 a k .char n vs d) (hj : ¬ i < 0 ∧ i < n) (hv : vs.getD i.toNatClampNeg d = .int wv) (hr : r = (own_f_hit i fr wv)) :
    MetFree l (⟨"com/example/encon/encon/UrlSyntaxUserInfoMayEndAfterPinLaw", "hit", "([CII)I"⟩ : MethodName) (head1 (Jvm.Cond.code (⟨"com/example/encon/encon/UrlSyntaxUserInfoMayEndAfterPinLaw", "hit", "([CII)I"⟩ : MethodName) method_3_code 3 (some .int) :: ws) ({ frames := 0, cells := 0, slots := 0, locals := 0 } : Room)) (fun aa U => aa = #[(.ref a), (.int i), (.int fr)] ∧ Z.Warmed39 U.vm ∧ U.heap = h0) (fun _ _ _ _ _ => True) (fun _ U o U' => ∃ v L, o = .returned v ∧ (fun v h L => v = some (.int r) ∧ L = [] ∧ h = h0) v U'.heap L ∧ FrameEnd U o U' L ({ frames := 0, cells := 0, slots := 0, locals := 0 } : Room).cells ({ frames := 0, cells := 0, slots := 0, locals := 0 } : Room).slots) := by
  refine MetFree.of_bodySF (plainFor_of_name own_pn0) hisR ?_
  intro p e s m args below meth c s₁ Bd hml0 hP hK
  obtain ⟨rfl, hZ, hh⟩ := hP
  have hx := Bd.exec
  have hby := Bd.bytes
  have hml : c.maxLocals = 3 := hml0
  have hlk : meth.locks = false := BodyLoose.notSynchronized Bd
  have hown : s.vm.findClass "com/example/encon/encon/UrlSyntaxUserInfoMayEndAfterPinLaw" = some m.cls := findClass_of_methodNamed Bd.named
  have hnm := (name_of_methodNamed Bd.named Bd.method).1
  have X0 : Stand p l e ({ frames := 0, cells := 0, slots := 0, locals := 0 } : Room) s m #[(.ref a), (.int i), (.int fr)] below meth c s₁ [] 0 0 := Stand.of_body Bd
  have e0 : s₁.heap = h0 := by rw [← hh, Bd.state]; rfl
  rw [own_ef1 m a i fr]
  show own_Go p e below s ({ frames := 0, cells := 0, slots := 0, locals := 0 } : Room).cells ({ frames := 0, cells := 0, slots := 0, locals := 0 } : Room).slots (fun v h L => v = some (.int r) ∧ L = [] ∧ h = h0) s₁ (mkF m 0 #[.val (.ref a), .val (.int i), .val (.int fr)] [])
  refine own_st (g' := (mkF m 2 #[.val (.ref a), .val (.int i), .val (.int fr)] [(.int fr), (.int i)])) (fun _ q => XS.iloadN X0.here hx rfl (hb hby own_d1_0) rfl (XS.iloadN X0.here hx rfl (hb hby own_d1_1) rfl (q))) ?_
  by_cases hc1 : i < fr
  · -- i < fr
    refine own_st (g' := (mkF m 6 #[.val (.ref a), .val (.int i), .val (.int fr)] [(.int (0 : Int32))])) (fun _ q => XS.icmpNo X0.here hx rfl (hb hby own_d1_2) rfl (tlt hc1).2.1 (XS.iconst X0.here hx rfl (hb hby own_d1_5) (q))) ?_
    exact own_goI X0 hlk hx Bd.returns (hb hby own_d1_6) ⟨by subst hr; rw [own_f_hit, if_pos hc1] <;> rfl, rfl, e0⟩ (by decide) (by decide)
  · -- not: i < fr
    refine own_st (g' := (mkF m 9 #[.val (.ref a), .val (.int i), .val (.int fr)] [(.int i), (.ref a)])) (fun _ q => XS.icmpYes X0.here hx rfl (pc0 := 2) (pc' := 7) rfl (hb hby own_d1_2) rfl (flt hc1).2.1 (by decide) (by decide) (XS.aloadN X0.here hx rfl (hb hby own_d1_7) rfl rfl (XS.iloadN X0.here hx rfl (hb hby own_d1_8) rfl (q)))) ?_
    refine own_st (g' := (mkF m 10 #[.val (.ref a), .val (.int i), .val (.int fr)] [(.int wv)])) (own_cald X0 hx hZ e0 V hj hv (hb hby own_d1_9)) ?_
    refine own_st (g' := (mkF m 12 #[.val (.ref a), .val (.int i), .val (.int fr)] [(.int (64 : Int32)), (.int wv)])) (fun _ q => XS.bipush X0.here hx rfl (hb hby own_d1_10) (q)) ?_
    by_cases hc2 : wv = (64 : Int32)
    · -- wv = (64 : Int32)
      refine own_st (g' := (mkF m 16 #[.val (.ref a), .val (.int i), .val (.int fr)] [(.int (1 : Int32))])) (fun _ q => XS.icmpNo X0.here hx rfl (hb hby own_d1_12) rfl (teq hc2).2 (XS.iconst X0.here hx rfl (hb hby own_d1_15) (q))) ?_
      exact own_goI X0 hlk hx Bd.returns (hb hby own_d1_16) ⟨by subst hr; rw [own_f_hit, if_neg hc1, if_pos hc2] <;> rfl, rfl, e0⟩ (by decide) (by decide)
    · -- not: wv = (64 : Int32)
      refine own_st (g' := (mkF m 19 #[.val (.ref a), .val (.int i), .val (.int fr)] [(.int i), (.ref a)])) (fun _ q => XS.icmpYes X0.here hx rfl (pc0 := 12) (pc' := 17) rfl (hb hby own_d1_12) rfl (feq hc2).2 (by decide) (by decide) (XS.aloadN X0.here hx rfl (hb hby own_d1_17) rfl rfl (XS.iloadN X0.here hx rfl (hb hby own_d1_18) rfl (q)))) ?_
      refine own_st (g' := (mkF m 20 #[.val (.ref a), .val (.int i), .val (.int fr)] [(.int wv)])) (own_cald X0 hx hZ e0 V hj hv (hb hby own_d1_19)) ?_
      refine own_st (g' := (mkF m 22 #[.val (.ref a), .val (.int i), .val (.int fr)] [(.int (47 : Int32)), (.int wv)])) (fun _ q => XS.bipush X0.here hx rfl (hb hby own_d1_20) (q)) ?_
      by_cases hc3 : wv = (47 : Int32)
      · -- wv = (47 : Int32)
        refine own_st (g' := (mkF m 26 #[.val (.ref a), .val (.int i), .val (.int fr)] [(.int (2 : Int32))])) (fun _ q => XS.icmpNo X0.here hx rfl (hb hby own_d1_22) rfl (teq hc3).2 (XS.iconst X0.here hx rfl (hb hby own_d1_25) (q))) ?_
        exact own_goI X0 hlk hx Bd.returns (hb hby own_d1_26) ⟨by subst hr; rw [own_f_hit, if_neg hc1, if_neg hc2, if_pos hc3] <;> rfl, rfl, e0⟩ (by decide) (by decide)
      · -- not: wv = (47 : Int32)
        refine own_st (g' := (mkF m 28 #[.val (.ref a), .val (.int i), .val (.int fr)] [(.int (0 : Int32))])) (fun _ q => XS.icmpYes X0.here hx rfl (pc0 := 22) (pc' := 27) rfl (hb hby own_d1_22) rfl (feq hc3).2 (by decide) (by decide) (XS.iconst X0.here hx rfl (hb hby own_d1_27) (q))) ?_
        exact own_goI X0 hlk hx Bd.returns (hb hby own_d1_28) ⟨by subst hr; rw [own_f_hit, if_neg hc1, if_neg hc2, if_neg hc3] <;> rfl, rfl, e0⟩ (by decide) (by decide)
theorem own_ef2 (m : MethodId) (x0 : Addr) (x1 : Int32) : entryFrame m #[(.ref x0), (.int x1)] 3 = mkF m 0 #[.val (.ref x0), .val (.int x1), .unset] [] := by first | rfl | (simp [entryFrame, mkF, argsToLocals, Value.category, maxLocals]; done)
theorem own_d2_0 : decode method_4_code 0 = .ok (.aload_n 0, 1) := by decide +kernel
theorem own_d2_1 : decode method_4_code 1 = .ok (.iconst 0, 1) := by decide +kernel
theorem own_d2_2 : decode method_4_code 2 = .ok (.iload_n 1, 1) := by decide +kernel
theorem own_d2_3 : decode method_4_code 3 = .ok (.invokestatic 7, 3) := by decide +kernel
theorem own_pd0 : parseMethodDescriptor "([CII)I" = some ⟨[(.array .char), .int, .int], some .int⟩ := by decide +kernel
theorem own_d2_6 : decode method_4_code 6 = .ok (.istore_n 2, 1) := by decide +kernel
theorem own_d2_7 : decode method_4_code 7 = .ok (.iload_n 2, 1) := by decide +kernel
theorem own_d2_8 : decode method_4_code 8 = .ok (.ifCond .eq 14, 3) := by decide +kernel
theorem own_d2_22 : decode method_4_code 22 = .ok (.aload_n 0, 1) := by decide +kernel
theorem own_d2_23 : decode method_4_code 23 = .ok (.iconst 1, 1) := by decide +kernel
theorem own_d2_24 : decode method_4_code 24 = .ok (.iload_n 1, 1) := by decide +kernel
theorem own_d2_25 : decode method_4_code 25 = .ok (.invokestatic 7, 3) := by decide +kernel
theorem own_d2_28 : decode method_4_code 28 = .ok (.istore_n 2, 1) := by decide +kernel
theorem own_d2_29 : decode method_4_code 29 = .ok (.iload_n 2, 1) := by decide +kernel
theorem own_d2_30 : decode method_4_code 30 = .ok (.ifCond .eq 14, 3) := by decide +kernel
theorem own_d2_44 : decode method_4_code 44 = .ok (.aload_n 0, 1) := by decide +kernel
theorem own_d2_45 : decode method_4_code 45 = .ok (.iconst 2, 1) := by decide +kernel
theorem own_d2_46 : decode method_4_code 46 = .ok (.iload_n 1, 1) := by decide +kernel
theorem own_d2_47 : decode method_4_code 47 = .ok (.invokestatic 7, 3) := by decide +kernel
theorem own_d2_50 : decode method_4_code 50 = .ok (.istore_n 2, 1) := by decide +kernel
theorem own_d2_51 : decode method_4_code 51 = .ok (.iload_n 2, 1) := by decide +kernel
theorem own_d2_52 : decode method_4_code 52 = .ok (.ifCond .eq 14, 3) := by decide +kernel
theorem own_d2_66 : decode method_4_code 66 = .ok (.aload_n 0, 1) := by decide +kernel
theorem own_d2_67 : decode method_4_code 67 = .ok (.iconst 3, 1) := by decide +kernel
theorem own_d2_68 : decode method_4_code 68 = .ok (.iload_n 1, 1) := by decide +kernel
theorem own_d2_69 : decode method_4_code 69 = .ok (.invokestatic 7, 3) := by decide +kernel
theorem own_d2_72 : decode method_4_code 72 = .ok (.istore_n 2, 1) := by decide +kernel
theorem own_d2_73 : decode method_4_code 73 = .ok (.iload_n 2, 1) := by decide +kernel
theorem own_d2_74 : decode method_4_code 74 = .ok (.ifCond .eq 14, 3) := by decide +kernel
theorem own_d2_88 : decode method_4_code 88 = .ok (.iconst 0, 1) := by decide +kernel
theorem own_d2_89 : decode method_4_code 89 = .ok (.ireturn, 1) := by decide +kernel
theorem own_d2_77 : decode method_4_code 77 = .ok (.iload_n 2, 1) := by decide +kernel
theorem own_d2_78 : decode method_4_code 78 = .ok (.iconst 1, 1) := by decide +kernel
theorem own_d2_79 : decode method_4_code 79 = .ok (.if_icmp .ne 7, 3) := by decide +kernel
theorem own_d2_82 : decode method_4_code 82 = .ok (.iconst 1, 1) := by decide +kernel
theorem own_d2_83 : decode method_4_code 83 = .ok (.goto 4, 3) := by decide +kernel
theorem own_d2_87 : decode method_4_code 87 = .ok (.ireturn, 1) := by decide +kernel
theorem own_d2_86 : decode method_4_code 86 = .ok (.iconst 0, 1) := by decide +kernel
theorem own_d2_55 : decode method_4_code 55 = .ok (.iload_n 2, 1) := by decide +kernel
theorem own_d2_56 : decode method_4_code 56 = .ok (.iconst 1, 1) := by decide +kernel
theorem own_d2_57 : decode method_4_code 57 = .ok (.if_icmp .ne 7, 3) := by decide +kernel
theorem own_d2_60 : decode method_4_code 60 = .ok (.iconst 1, 1) := by decide +kernel
theorem own_d2_61 : decode method_4_code 61 = .ok (.goto 4, 3) := by decide +kernel
theorem own_d2_65 : decode method_4_code 65 = .ok (.ireturn, 1) := by decide +kernel
theorem own_d2_64 : decode method_4_code 64 = .ok (.iconst 0, 1) := by decide +kernel
theorem own_d2_33 : decode method_4_code 33 = .ok (.iload_n 2, 1) := by decide +kernel
theorem own_d2_34 : decode method_4_code 34 = .ok (.iconst 1, 1) := by decide +kernel
theorem own_d2_35 : decode method_4_code 35 = .ok (.if_icmp .ne 7, 3) := by decide +kernel
theorem own_d2_38 : decode method_4_code 38 = .ok (.iconst 1, 1) := by decide +kernel
theorem own_d2_39 : decode method_4_code 39 = .ok (.goto 4, 3) := by decide +kernel
theorem own_d2_43 : decode method_4_code 43 = .ok (.ireturn, 1) := by decide +kernel
theorem own_d2_42 : decode method_4_code 42 = .ok (.iconst 0, 1) := by decide +kernel
theorem own_d2_11 : decode method_4_code 11 = .ok (.iload_n 2, 1) := by decide +kernel
theorem own_d2_12 : decode method_4_code 12 = .ok (.iconst 1, 1) := by decide +kernel
theorem own_d2_13 : decode method_4_code 13 = .ok (.if_icmp .ne 7, 3) := by decide +kernel
theorem own_d2_16 : decode method_4_code 16 = .ok (.iconst 1, 1) := by decide +kernel
theorem own_d2_17 : decode method_4_code 17 = .ok (.goto 4, 3) := by decide +kernel
theorem own_d2_21 : decode method_4_code 21 = .ok (.ireturn, 1) := by decide +kernel
theorem own_d2_20 : decode method_4_code 20 = .ok (.iconst 0, 1) := by decide +kernel
def own_f_ref (c0 c1 c2 c3 fr : Int32) : Int32 := (if (own_f_hit (0 : Int32) fr c0) = (0 : Int32) then (if (own_f_hit (1 : Int32) fr c1) = (0 : Int32) then (if (own_f_hit (2 : Int32) fr c2) = (0 : Int32) then (if (own_f_hit (3 : Int32) fr c3) = (0 : Int32) then (0 : Int32) else (if (own_f_hit (3 : Int32) fr c3) = (1 : Int32) then (1 : Int32) else (0 : Int32))) else (if (own_f_hit (2 : Int32) fr c2) = (1 : Int32) then (1 : Int32) else (0 : Int32))) else (if (own_f_hit (1 : Int32) fr c1) = (1 : Int32) then (1 : Int32) else (0 : Int32))) else (if (own_f_hit (0 : Int32) fr c0) = (1 : Int32) then (1 : Int32) else (0 : Int32)))
set_option maxRecDepth 65536 in
set_option maxHeartbeats 40000000 in
theorem own_rm_ref (l : Launch) (Z : State) (a0 : Array Value) (hw : ∀ d ∈ tables_1, d.before a0 Z = true) (ws : List Jvm.Cond) (a : Addr) (k : ClassId) (c0 c1 c2 c3 fr : Int32) (d : Value) (r : Int32) (h0 : Heap) (V : Arv Z h0 a k .char (4 : Int32) [(.int c0), (.int c1), (.int c2), (.int c3)] d) (hr : r = (own_f_ref c0 c1 c2 c3 fr)) :
    MetFree l (⟨"com/example/encon/encon/UrlSyntaxUserInfoMayEndAfterPinLaw", "reference", "([CI)Z"⟩ : MethodName) (head1 (Jvm.Cond.code (⟨"com/example/encon/encon/UrlSyntaxUserInfoMayEndAfterPinLaw", "reference", "([CI)Z"⟩ : MethodName) method_4_code 3 (some .boolean) :: ws) ({ frames := 1, cells := 0, slots := 0, locals := 14 } : Room)) (fun aa U => aa = #[(.ref a), (.int fr)] ∧ Z.Warmed39 U.vm ∧ U.heap = h0) (fun _ _ _ _ _ => True) (fun _ U o U' => ∃ v L, o = .returned v ∧ (fun v h L => v = some (.int r) ∧ L = [] ∧ h = h0) v U'.heap L ∧ FrameEnd U o U' L ({ frames := 1, cells := 0, slots := 0, locals := 14 } : Room).cells ({ frames := 1, cells := 0, slots := 0, locals := 14 } : Room).slots) := by
  refine MetFree.of_bodySF (plainFor_of_name own_pn0) hisR ?_
  intro p e s m args below meth c s₁ Bd hml0 hP hK
  obtain ⟨rfl, hZ, hh⟩ := hP
  have hx := Bd.exec
  have hby := Bd.bytes
  have hml : c.maxLocals = 3 := hml0
  have hlk : meth.locks = false := BodyLoose.notSynchronized Bd
  have hown : s.vm.findClass "com/example/encon/encon/UrlSyntaxUserInfoMayEndAfterPinLaw" = some m.cls := findClass_of_methodNamed Bd.named
  have hnm := (name_of_methodNamed Bd.named Bd.method).1
  have X0 : Stand p l e ({ frames := 1, cells := 0, slots := 0, locals := 14 } : Room) s m #[(.ref a), (.int fr)] below meth c s₁ [] 0 0 := Stand.of_body Bd
  have e0 : s₁.heap = h0 := by rw [← hh, Bd.state]; rfl
  rw [own_ef2 m a fr]
  show own_Go p e below s ({ frames := 1, cells := 0, slots := 0, locals := 14 } : Room).cells ({ frames := 1, cells := 0, slots := 0, locals := 14 } : Room).slots (fun v h L => v = some (.int r) ∧ L = [] ∧ h = h0) s₁ (mkF m 0 #[.val (.ref a), .val (.int fr), .unset] [])
  refine own_st (g' := (mkF m 3 #[.val (.ref a), .val (.int fr), .unset] [(.int fr), (.int (0 : Int32)), (.ref a)])) (fun _ q => XS.aloadN X0.here hx rfl (hb hby own_d2_0) rfl rfl (XS.iconst X0.here hx rfl (hb hby own_d2_1) (XS.iloadN X0.here hx rfl (hb hby own_d2_2) rfl (q)))) ?_
  obtain ⟨r1, hr1⟩ : ∃ z : Int32, z = (own_f_hit (0 : Int32) fr c0) := ⟨_, rfl⟩
  have K1 : own_Bk l ({ frames := 1, cells := 0, slots := 0, locals := 14 } : Room) p e below s #[(.ref a), (.int fr)] (⟨"com/example/encon/encon/UrlSyntaxUserInfoMayEndAfterPinLaw", "hit", "([CII)I"⟩ : MethodName) 0 h0 #[(.ref a), (.int (0 : Int32)), (.int fr)] 0 0 (fun v h L => v = some (.int r1) ∧ L = [] ∧ h = h0) := backOf (R := ({ frames := 1, cells := 0, slots := 0, locals := 14 } : Room)) (W := 0) (Q := (fun v h L => v = some (.int r1) ∧ L = [] ∧ h = h0)) (rm := ({ frames := 0, cells := 0, slots := 0, locals := 0 } : Room)) (own_rm_hit l Z a0 hw [] a k (4 : Int32) (0 : Int32) fr c0 [(.int c0), (.int c1), (.int c2), (.int c3)] d r1 h0 V ⟨by decide, by decide⟩ rfl (by rw [hr1])) hZ (hw _ (List.mem_of_getElem? (i := 80) rfl)) (hw _ (List.mem_of_getElem? (i := 3) rfl)) (by decide) (by decide)
  obtain ⟨T2, X2, e2, st2⟩ := own_pure (own_cS X0 hx hZ hown (hw _ (List.mem_of_getElem? (i := 78) rfl)) (hw _ (List.mem_of_getElem? (i := 79) rfl)) (hw _ (List.mem_of_getElem? (i := 3) rfl)) (hw _ (List.mem_of_getElem? (i := 80) rfl)) (by decide) e0 (h := h0) (argsL := [(.ref a), (.int (0 : Int32)), (.int fr)]) (rest := []) K1 (pc := 3) (Ls := #[.val (.ref a), .val (.int fr), .unset]) (by rw [hml]; rfl) (lenOf own_pd0 rfl) rfl (Nat.le_of_eq rfl) (hb hby own_d2_3) (by decide) (by decide))
  refine own_st (g' := (mkF m 6 #[.val (.ref a), .val (.int fr), .unset] [(.int r1)])) st2 ?_
  refine own_st (g' := (mkF m 8 #[.val (.ref a), .val (.int fr), .val (.int r1)] [(.int r1)])) (fun _ q => XS.istoreN X2.here hx rfl (hb hby own_d2_6) rfl (l' := #[.val (.ref a), .val (.int fr), .val (.int r1)]) rfl (XS.iloadN X2.here hx rfl (hb hby own_d2_7) rfl (q))) ?_
  by_cases hc3 : r1 = (0 : Int32)
  · -- r1 = (0 : Int32)
    refine own_st (g' := (mkF m 25 #[.val (.ref a), .val (.int fr), .val (.int r1)] [(.int fr), (.int (1 : Int32)), (.ref a)])) (fun _ q => XS.ifYes X2.here hx rfl (pc0 := 8) (pc' := 22) rfl (hb hby own_d2_8) rfl ((if0 _ _).trans (teq hc3).1) (by decide) (by decide) (XS.aloadN X2.here hx rfl (hb hby own_d2_22) rfl rfl (XS.iconst X2.here hx rfl (hb hby own_d2_23) (XS.iloadN X2.here hx rfl (hb hby own_d2_24) rfl (q))))) ?_
    obtain ⟨r4, hr4⟩ : ∃ z : Int32, z = (own_f_hit (1 : Int32) fr c1) := ⟨_, rfl⟩
    have K4 : own_Bk l ({ frames := 1, cells := 0, slots := 0, locals := 14 } : Room) p e below s #[(.ref a), (.int fr)] (⟨"com/example/encon/encon/UrlSyntaxUserInfoMayEndAfterPinLaw", "hit", "([CII)I"⟩ : MethodName) 0 h0 #[(.ref a), (.int (1 : Int32)), (.int fr)] 0 0 (fun v h L => v = some (.int r4) ∧ L = [] ∧ h = h0) := backOf (R := ({ frames := 1, cells := 0, slots := 0, locals := 14 } : Room)) (W := 0) (Q := (fun v h L => v = some (.int r4) ∧ L = [] ∧ h = h0)) (rm := ({ frames := 0, cells := 0, slots := 0, locals := 0 } : Room)) (own_rm_hit l Z a0 hw [] a k (4 : Int32) (1 : Int32) fr c1 [(.int c0), (.int c1), (.int c2), (.int c3)] d r4 h0 V ⟨by decide, by decide⟩ rfl (by rw [hr4])) hZ (hw _ (List.mem_of_getElem? (i := 80) rfl)) (hw _ (List.mem_of_getElem? (i := 3) rfl)) (by decide) (by decide)
    obtain ⟨T5, X5, e5, st5⟩ := own_pure (own_cS X2 hx hZ hown (hw _ (List.mem_of_getElem? (i := 78) rfl)) (hw _ (List.mem_of_getElem? (i := 79) rfl)) (hw _ (List.mem_of_getElem? (i := 3) rfl)) (hw _ (List.mem_of_getElem? (i := 80) rfl)) (by decide) e2 (h := h0) (argsL := [(.ref a), (.int (1 : Int32)), (.int fr)]) (rest := []) K4 (pc := 25) (Ls := #[.val (.ref a), .val (.int fr), .val (.int r1)]) (by rw [hml]; rfl) (lenOf own_pd0 rfl) rfl (Nat.le_of_eq rfl) (hb hby own_d2_25) (by decide) (by decide))
    refine own_st (g' := (mkF m 28 #[.val (.ref a), .val (.int fr), .val (.int r1)] [(.int r4)])) st5 ?_
    refine own_st (g' := (mkF m 30 #[.val (.ref a), .val (.int fr), .val (.int r4)] [(.int r4)])) (fun _ q => XS.istoreN X5.here hx rfl (hb hby own_d2_28) rfl (l' := #[.val (.ref a), .val (.int fr), .val (.int r4)]) rfl (XS.iloadN X5.here hx rfl (hb hby own_d2_29) rfl (q))) ?_
    by_cases hc6 : r4 = (0 : Int32)
    · -- r4 = (0 : Int32)
      refine own_st (g' := (mkF m 47 #[.val (.ref a), .val (.int fr), .val (.int r4)] [(.int fr), (.int (2 : Int32)), (.ref a)])) (fun _ q => XS.ifYes X5.here hx rfl (pc0 := 30) (pc' := 44) rfl (hb hby own_d2_30) rfl ((if0 _ _).trans (teq hc6).1) (by decide) (by decide) (XS.aloadN X5.here hx rfl (hb hby own_d2_44) rfl rfl (XS.iconst X5.here hx rfl (hb hby own_d2_45) (XS.iloadN X5.here hx rfl (hb hby own_d2_46) rfl (q))))) ?_
      obtain ⟨r7, hr7⟩ : ∃ z : Int32, z = (own_f_hit (2 : Int32) fr c2) := ⟨_, rfl⟩
      have K7 : own_Bk l ({ frames := 1, cells := 0, slots := 0, locals := 14 } : Room) p e below s #[(.ref a), (.int fr)] (⟨"com/example/encon/encon/UrlSyntaxUserInfoMayEndAfterPinLaw", "hit", "([CII)I"⟩ : MethodName) 0 h0 #[(.ref a), (.int (2 : Int32)), (.int fr)] 0 0 (fun v h L => v = some (.int r7) ∧ L = [] ∧ h = h0) := backOf (R := ({ frames := 1, cells := 0, slots := 0, locals := 14 } : Room)) (W := 0) (Q := (fun v h L => v = some (.int r7) ∧ L = [] ∧ h = h0)) (rm := ({ frames := 0, cells := 0, slots := 0, locals := 0 } : Room)) (own_rm_hit l Z a0 hw [] a k (4 : Int32) (2 : Int32) fr c2 [(.int c0), (.int c1), (.int c2), (.int c3)] d r7 h0 V ⟨by decide, by decide⟩ rfl (by rw [hr7])) hZ (hw _ (List.mem_of_getElem? (i := 80) rfl)) (hw _ (List.mem_of_getElem? (i := 3) rfl)) (by decide) (by decide)
      obtain ⟨T8, X8, e8, st8⟩ := own_pure (own_cS X5 hx hZ hown (hw _ (List.mem_of_getElem? (i := 78) rfl)) (hw _ (List.mem_of_getElem? (i := 79) rfl)) (hw _ (List.mem_of_getElem? (i := 3) rfl)) (hw _ (List.mem_of_getElem? (i := 80) rfl)) (by decide) e5 (h := h0) (argsL := [(.ref a), (.int (2 : Int32)), (.int fr)]) (rest := []) K7 (pc := 47) (Ls := #[.val (.ref a), .val (.int fr), .val (.int r4)]) (by rw [hml]; rfl) (lenOf own_pd0 rfl) rfl (Nat.le_of_eq rfl) (hb hby own_d2_47) (by decide) (by decide))
      refine own_st (g' := (mkF m 50 #[.val (.ref a), .val (.int fr), .val (.int r4)] [(.int r7)])) st8 ?_
      refine own_st (g' := (mkF m 52 #[.val (.ref a), .val (.int fr), .val (.int r7)] [(.int r7)])) (fun _ q => XS.istoreN X8.here hx rfl (hb hby own_d2_50) rfl (l' := #[.val (.ref a), .val (.int fr), .val (.int r7)]) rfl (XS.iloadN X8.here hx rfl (hb hby own_d2_51) rfl (q))) ?_
      by_cases hc9 : r7 = (0 : Int32)
      · -- r7 = (0 : Int32)
        refine own_st (g' := (mkF m 69 #[.val (.ref a), .val (.int fr), .val (.int r7)] [(.int fr), (.int (3 : Int32)), (.ref a)])) (fun _ q => XS.ifYes X8.here hx rfl (pc0 := 52) (pc' := 66) rfl (hb hby own_d2_52) rfl ((if0 _ _).trans (teq hc9).1) (by decide) (by decide) (XS.aloadN X8.here hx rfl (hb hby own_d2_66) rfl rfl (XS.iconst X8.here hx rfl (hb hby own_d2_67) (XS.iloadN X8.here hx rfl (hb hby own_d2_68) rfl (q))))) ?_
        obtain ⟨r10, hr10⟩ : ∃ z : Int32, z = (own_f_hit (3 : Int32) fr c3) := ⟨_, rfl⟩
        have K10 : own_Bk l ({ frames := 1, cells := 0, slots := 0, locals := 14 } : Room) p e below s #[(.ref a), (.int fr)] (⟨"com/example/encon/encon/UrlSyntaxUserInfoMayEndAfterPinLaw", "hit", "([CII)I"⟩ : MethodName) 0 h0 #[(.ref a), (.int (3 : Int32)), (.int fr)] 0 0 (fun v h L => v = some (.int r10) ∧ L = [] ∧ h = h0) := backOf (R := ({ frames := 1, cells := 0, slots := 0, locals := 14 } : Room)) (W := 0) (Q := (fun v h L => v = some (.int r10) ∧ L = [] ∧ h = h0)) (rm := ({ frames := 0, cells := 0, slots := 0, locals := 0 } : Room)) (own_rm_hit l Z a0 hw [] a k (4 : Int32) (3 : Int32) fr c3 [(.int c0), (.int c1), (.int c2), (.int c3)] d r10 h0 V ⟨by decide, by decide⟩ rfl (by rw [hr10])) hZ (hw _ (List.mem_of_getElem? (i := 80) rfl)) (hw _ (List.mem_of_getElem? (i := 3) rfl)) (by decide) (by decide)
        obtain ⟨T11, X11, e11, st11⟩ := own_pure (own_cS X8 hx hZ hown (hw _ (List.mem_of_getElem? (i := 78) rfl)) (hw _ (List.mem_of_getElem? (i := 79) rfl)) (hw _ (List.mem_of_getElem? (i := 3) rfl)) (hw _ (List.mem_of_getElem? (i := 80) rfl)) (by decide) e8 (h := h0) (argsL := [(.ref a), (.int (3 : Int32)), (.int fr)]) (rest := []) K10 (pc := 69) (Ls := #[.val (.ref a), .val (.int fr), .val (.int r7)]) (by rw [hml]; rfl) (lenOf own_pd0 rfl) rfl (Nat.le_of_eq rfl) (hb hby own_d2_69) (by decide) (by decide))
        refine own_st (g' := (mkF m 72 #[.val (.ref a), .val (.int fr), .val (.int r7)] [(.int r10)])) st11 ?_
        refine own_st (g' := (mkF m 74 #[.val (.ref a), .val (.int fr), .val (.int r10)] [(.int r10)])) (fun _ q => XS.istoreN X11.here hx rfl (hb hby own_d2_72) rfl (l' := #[.val (.ref a), .val (.int fr), .val (.int r10)]) rfl (XS.iloadN X11.here hx rfl (hb hby own_d2_73) rfl (q))) ?_
        by_cases hc12 : r10 = (0 : Int32)
        · -- r10 = (0 : Int32)
          refine own_st (g' := (mkF m 89 #[.val (.ref a), .val (.int fr), .val (.int r10)] [(.int (0 : Int32))])) (fun _ q => XS.ifYes X11.here hx rfl (pc0 := 74) (pc' := 88) rfl (hb hby own_d2_74) rfl ((if0 _ _).trans (teq hc12).1) (by decide) (by decide) (XS.iconst X11.here hx rfl (hb hby own_d2_88) (q))) ?_
          exact own_goN X11 hlk hx (t := .boolean) (by simp) Bd.returns (hb hby own_d2_89) ⟨by subst hr hr1 hr4 hr7 hr10; rw [own_f_ref, if_pos hc3, if_pos hc6, if_pos hc9, if_pos hc12] <;> rfl, rfl, e11⟩ (by decide) (by decide)
        · -- not: r10 = (0 : Int32)
          refine own_st (g' := (mkF m 79 #[.val (.ref a), .val (.int fr), .val (.int r10)] [(.int (1 : Int32)), (.int r10)])) (fun _ q => XS.ifNo X11.here hx rfl (hb hby own_d2_74) rfl ((if0 _ _).trans (feq hc12).1) (XS.iloadN X11.here hx rfl (hb hby own_d2_77) rfl (XS.iconst X11.here hx rfl (hb hby own_d2_78) (q)))) ?_
          by_cases hc13 : r10 = (1 : Int32)
          · -- r10 = (1 : Int32)
            refine own_st (g' := (mkF m 87 #[.val (.ref a), .val (.int fr), .val (.int r10)] [(.int (1 : Int32))])) (fun _ q => XS.icmpNo X11.here hx rfl (hb hby own_d2_79) rfl (teq hc13).2 (XS.iconst X11.here hx rfl (hb hby own_d2_82) (XS.goto X11.here hx rfl (pc0 := 83) (pc' := 87) rfl (hb hby own_d2_83) (by decide) (by decide) (q)))) ?_
            exact own_goN X11 hlk hx (t := .boolean) (by simp) Bd.returns (hb hby own_d2_87) ⟨by subst hr hr1 hr4 hr7 hr10; rw [own_f_ref, if_pos hc3, if_pos hc6, if_pos hc9, if_neg hc12, if_pos hc13] <;> rfl, rfl, e11⟩ (by decide) (by decide)
          · -- not: r10 = (1 : Int32)
            refine own_st (g' := (mkF m 87 #[.val (.ref a), .val (.int fr), .val (.int r10)] [(.int (0 : Int32))])) (fun _ q => XS.icmpYes X11.here hx rfl (pc0 := 79) (pc' := 86) rfl (hb hby own_d2_79) rfl (feq hc13).2 (by decide) (by decide) (XS.iconst X11.here hx rfl (hb hby own_d2_86) (q))) ?_
            exact own_goN X11 hlk hx (t := .boolean) (by simp) Bd.returns (hb hby own_d2_87) ⟨by subst hr hr1 hr4 hr7 hr10; rw [own_f_ref, if_pos hc3, if_pos hc6, if_pos hc9, if_neg hc12, if_neg hc13] <;> rfl, rfl, e11⟩ (by decide) (by decide)
      · -- not: r7 = (0 : Int32)
        refine own_st (g' := (mkF m 57 #[.val (.ref a), .val (.int fr), .val (.int r7)] [(.int (1 : Int32)), (.int r7)])) (fun _ q => XS.ifNo X8.here hx rfl (hb hby own_d2_52) rfl ((if0 _ _).trans (feq hc9).1) (XS.iloadN X8.here hx rfl (hb hby own_d2_55) rfl (XS.iconst X8.here hx rfl (hb hby own_d2_56) (q)))) ?_
        by_cases hc14 : r7 = (1 : Int32)
        · -- r7 = (1 : Int32)
          refine own_st (g' := (mkF m 65 #[.val (.ref a), .val (.int fr), .val (.int r7)] [(.int (1 : Int32))])) (fun _ q => XS.icmpNo X8.here hx rfl (hb hby own_d2_57) rfl (teq hc14).2 (XS.iconst X8.here hx rfl (hb hby own_d2_60) (XS.goto X8.here hx rfl (pc0 := 61) (pc' := 65) rfl (hb hby own_d2_61) (by decide) (by decide) (q)))) ?_
          exact own_goN X8 hlk hx (t := .boolean) (by simp) Bd.returns (hb hby own_d2_65) ⟨by subst hr hr1 hr4 hr7; rw [own_f_ref, if_pos hc3, if_pos hc6, if_neg hc9, if_pos hc14] <;> rfl, rfl, e8⟩ (by decide) (by decide)
        · -- not: r7 = (1 : Int32)
          refine own_st (g' := (mkF m 65 #[.val (.ref a), .val (.int fr), .val (.int r7)] [(.int (0 : Int32))])) (fun _ q => XS.icmpYes X8.here hx rfl (pc0 := 57) (pc' := 64) rfl (hb hby own_d2_57) rfl (feq hc14).2 (by decide) (by decide) (XS.iconst X8.here hx rfl (hb hby own_d2_64) (q))) ?_
          exact own_goN X8 hlk hx (t := .boolean) (by simp) Bd.returns (hb hby own_d2_65) ⟨by subst hr hr1 hr4 hr7; rw [own_f_ref, if_pos hc3, if_pos hc6, if_neg hc9, if_neg hc14] <;> rfl, rfl, e8⟩ (by decide) (by decide)
    · -- not: r4 = (0 : Int32)
      refine own_st (g' := (mkF m 35 #[.val (.ref a), .val (.int fr), .val (.int r4)] [(.int (1 : Int32)), (.int r4)])) (fun _ q => XS.ifNo X5.here hx rfl (hb hby own_d2_30) rfl ((if0 _ _).trans (feq hc6).1) (XS.iloadN X5.here hx rfl (hb hby own_d2_33) rfl (XS.iconst X5.here hx rfl (hb hby own_d2_34) (q)))) ?_
      by_cases hc15 : r4 = (1 : Int32)
      · -- r4 = (1 : Int32)
        refine own_st (g' := (mkF m 43 #[.val (.ref a), .val (.int fr), .val (.int r4)] [(.int (1 : Int32))])) (fun _ q => XS.icmpNo X5.here hx rfl (hb hby own_d2_35) rfl (teq hc15).2 (XS.iconst X5.here hx rfl (hb hby own_d2_38) (XS.goto X5.here hx rfl (pc0 := 39) (pc' := 43) rfl (hb hby own_d2_39) (by decide) (by decide) (q)))) ?_
        exact own_goN X5 hlk hx (t := .boolean) (by simp) Bd.returns (hb hby own_d2_43) ⟨by subst hr hr1 hr4; rw [own_f_ref, if_pos hc3, if_neg hc6, if_pos hc15] <;> rfl, rfl, e5⟩ (by decide) (by decide)
      · -- not: r4 = (1 : Int32)
        refine own_st (g' := (mkF m 43 #[.val (.ref a), .val (.int fr), .val (.int r4)] [(.int (0 : Int32))])) (fun _ q => XS.icmpYes X5.here hx rfl (pc0 := 35) (pc' := 42) rfl (hb hby own_d2_35) rfl (feq hc15).2 (by decide) (by decide) (XS.iconst X5.here hx rfl (hb hby own_d2_42) (q))) ?_
        exact own_goN X5 hlk hx (t := .boolean) (by simp) Bd.returns (hb hby own_d2_43) ⟨by subst hr hr1 hr4; rw [own_f_ref, if_pos hc3, if_neg hc6, if_neg hc15] <;> rfl, rfl, e5⟩ (by decide) (by decide)
  · -- not: r1 = (0 : Int32)
    refine own_st (g' := (mkF m 13 #[.val (.ref a), .val (.int fr), .val (.int r1)] [(.int (1 : Int32)), (.int r1)])) (fun _ q => XS.ifNo X2.here hx rfl (hb hby own_d2_8) rfl ((if0 _ _).trans (feq hc3).1) (XS.iloadN X2.here hx rfl (hb hby own_d2_11) rfl (XS.iconst X2.here hx rfl (hb hby own_d2_12) (q)))) ?_
    by_cases hc16 : r1 = (1 : Int32)
    · -- r1 = (1 : Int32)
      refine own_st (g' := (mkF m 21 #[.val (.ref a), .val (.int fr), .val (.int r1)] [(.int (1 : Int32))])) (fun _ q => XS.icmpNo X2.here hx rfl (hb hby own_d2_13) rfl (teq hc16).2 (XS.iconst X2.here hx rfl (hb hby own_d2_16) (XS.goto X2.here hx rfl (pc0 := 17) (pc' := 21) rfl (hb hby own_d2_17) (by decide) (by decide) (q)))) ?_
      exact own_goN X2 hlk hx (t := .boolean) (by simp) Bd.returns (hb hby own_d2_21) ⟨by subst hr hr1; rw [own_f_ref, if_neg hc3, if_pos hc16] <;> rfl, rfl, e2⟩ (by decide) (by decide)
    · -- not: r1 = (1 : Int32)
      refine own_st (g' := (mkF m 21 #[.val (.ref a), .val (.int fr), .val (.int r1)] [(.int (0 : Int32))])) (fun _ q => XS.icmpYes X2.here hx rfl (pc0 := 13) (pc' := 20) rfl (hb hby own_d2_13) rfl (feq hc16).2 (by decide) (by decide) (XS.iconst X2.here hx rfl (hb hby own_d2_20) (q))) ?_
      exact own_goN X2 hlk hx (t := .boolean) (by simp) Bd.returns (hb hby own_d2_21) ⟨by subst hr hr1; rw [own_f_ref, if_neg hc3, if_neg hc16] <;> rfl, rfl, e2⟩ (by decide) (by decide)
theorem own_ef3 (m : MethodId) (x0 : Int32) (x1 : Int32) : entryFrame m #[(.int x0), (.int x1)] 2 = mkF m 0 #[.val (.int x0), .val (.int x1)] [] := by first | rfl | (simp [entryFrame, mkF, argsToLocals, Value.category, maxLocals]; done)
theorem own_d3_0 : decode jdk_29_method_65_code 0 = .ok (.iload_n 0, 1) := by decide +kernel
theorem own_d3_1 : decode jdk_29_method_65_code 1 = .ok (.iload_n 1, 1) := by decide +kernel
theorem own_d3_2 : decode jdk_29_method_65_code 2 = .ok (.if_icmp .lt 7, 3) := by decide +kernel
theorem own_d3_9 : decode jdk_29_method_65_code 9 = .ok (.iload_n 1, 1) := by decide +kernel
theorem own_d3_10 : decode jdk_29_method_65_code 10 = .ok (.ireturn, 1) := by decide +kernel
theorem own_d3_5 : decode jdk_29_method_65_code 5 = .ok (.iload_n 0, 1) := by decide +kernel
theorem own_d3_6 : decode jdk_29_method_65_code 6 = .ok (.goto 4, 3) := by decide +kernel
def own_f_max (p0 : Int32) (p1 : Int32) : Int32 := (if p0 < p1 then p1 else p0)
set_option maxRecDepth 65536 in
set_option maxHeartbeats 40000000 in
theorem own_rm_max (l : Launch) (Z : State) (a0 : Array Value) (hw : ∀ d ∈ tables_1, d.before a0 Z = true) (ws : List Jvm.Cond) (p0 : Int32) (p1 : Int32) (r : Int32) (h0 : Heap)  (hr : r = (own_f_max p0 p1)) :
    MetFree l (⟨"java/lang/Math", "max", "(II)I"⟩ : MethodName) (head1 (Jvm.Cond.code (⟨"java/lang/Math", "max", "(II)I"⟩ : MethodName) jdk_29_method_65_code 2 (some .int) :: ws) ({ frames := 0, cells := 0, slots := 0, locals := 0 } : Room)) (fun aa U => aa = #[(.int p0), (.int p1)] ∧ Z.Warmed39 U.vm ∧ U.heap = h0) (fun _ _ _ _ _ => True) (fun _ U o U' => ∃ v L, o = .returned v ∧ (fun v h L => v = some (.int r) ∧ L = [] ∧ h = h0) v U'.heap L ∧ FrameEnd U o U' L ({ frames := 0, cells := 0, slots := 0, locals := 0 } : Room).cells ({ frames := 0, cells := 0, slots := 0, locals := 0 } : Room).slots) := by
  refine MetFree.of_bodySF (Jvm.Free.JP.mathPlain rfl (by decide +kernel)) hisR ?_
  intro p e s m args below meth c s₁ Bd hml0 hP hK
  obtain ⟨rfl, hZ, hh⟩ := hP
  have hx := Bd.exec
  have hby := Bd.bytes
  have hml : c.maxLocals = 2 := hml0
  have hlk : meth.locks = false := BodyLoose.notSynchronized Bd
  have hown : s.vm.findClass "java/lang/Math" = some m.cls := findClass_of_methodNamed Bd.named
  have hnm := (name_of_methodNamed Bd.named Bd.method).1
  have X0 : Stand p l e ({ frames := 0, cells := 0, slots := 0, locals := 0 } : Room) s m #[(.int p0), (.int p1)] below meth c s₁ [] 0 0 := Stand.of_body Bd
  have e0 : s₁.heap = h0 := by rw [← hh, Bd.state]; rfl
  rw [own_ef3 m p0 p1]
  show own_Go p e below s ({ frames := 0, cells := 0, slots := 0, locals := 0 } : Room).cells ({ frames := 0, cells := 0, slots := 0, locals := 0 } : Room).slots (fun v h L => v = some (.int r) ∧ L = [] ∧ h = h0) s₁ (mkF m 0 #[.val (.int p0), .val (.int p1)] [])
  refine own_st (g' := (mkF m 2 #[.val (.int p0), .val (.int p1)] [(.int p1), (.int p0)])) (fun _ q => XS.iloadN X0.here hx rfl (hb hby own_d3_0) rfl (XS.iloadN X0.here hx rfl (hb hby own_d3_1) rfl (q))) ?_
  by_cases hc1 : p0 < p1
  · -- p0 < p1
    refine own_st (g' := (mkF m 10 #[.val (.int p0), .val (.int p1)] [(.int p1)])) (fun _ q => XS.icmpYes X0.here hx rfl (pc0 := 2) (pc' := 9) rfl (hb hby own_d3_2) rfl (tlt hc1).1 (by decide) (by decide) (XS.iloadN X0.here hx rfl (hb hby own_d3_9) rfl (q))) ?_
    exact own_goI X0 hlk hx Bd.returns (hb hby own_d3_10) ⟨by subst hr; rw [own_f_max, if_pos hc1] <;> rfl, rfl, e0⟩ (by decide) (by decide)
  · -- not: p0 < p1
    refine own_st (g' := (mkF m 10 #[.val (.int p0), .val (.int p1)] [(.int p0)])) (fun _ q => XS.icmpNo X0.here hx rfl (hb hby own_d3_2) rfl (flt hc1).1 (XS.iloadN X0.here hx rfl (hb hby own_d3_5) rfl (XS.goto X0.here hx rfl (pc0 := 6) (pc' := 10) rfl (hb hby own_d3_6) (by decide) (by decide) (q)))) ?_
    exact own_goI X0 hlk hx Bd.returns (hb hby own_d3_10) ⟨by subst hr; rw [own_f_max, if_neg hc1] <;> rfl, rfl, e0⟩ (by decide) (by decide)
theorem own_d4_0 : decode jdk_29_method_69_code 0 = .ok (.iload_n 0, 1) := by decide +kernel
theorem own_d4_1 : decode jdk_29_method_69_code 1 = .ok (.iload_n 1, 1) := by decide +kernel
theorem own_d4_2 : decode jdk_29_method_69_code 2 = .ok (.if_icmp .gt 7, 3) := by decide +kernel
theorem own_d4_9 : decode jdk_29_method_69_code 9 = .ok (.iload_n 1, 1) := by decide +kernel
theorem own_d4_10 : decode jdk_29_method_69_code 10 = .ok (.ireturn, 1) := by decide +kernel
theorem own_d4_5 : decode jdk_29_method_69_code 5 = .ok (.iload_n 0, 1) := by decide +kernel
theorem own_d4_6 : decode jdk_29_method_69_code 6 = .ok (.goto 4, 3) := by decide +kernel
def own_f_min (p0 : Int32) (p1 : Int32) : Int32 := (if p1 < p0 then p1 else p0)
set_option maxRecDepth 65536 in
set_option maxHeartbeats 40000000 in
theorem own_rm_min (l : Launch) (Z : State) (a0 : Array Value) (hw : ∀ d ∈ tables_1, d.before a0 Z = true) (ws : List Jvm.Cond) (p0 : Int32) (p1 : Int32) (r : Int32) (h0 : Heap)  (hr : r = (own_f_min p0 p1)) :
    MetFree l (⟨"java/lang/Math", "min", "(II)I"⟩ : MethodName) (head1 (Jvm.Cond.code (⟨"java/lang/Math", "min", "(II)I"⟩ : MethodName) jdk_29_method_69_code 2 (some .int) :: ws) ({ frames := 0, cells := 0, slots := 0, locals := 0 } : Room)) (fun aa U => aa = #[(.int p0), (.int p1)] ∧ Z.Warmed39 U.vm ∧ U.heap = h0) (fun _ _ _ _ _ => True) (fun _ U o U' => ∃ v L, o = .returned v ∧ (fun v h L => v = some (.int r) ∧ L = [] ∧ h = h0) v U'.heap L ∧ FrameEnd U o U' L ({ frames := 0, cells := 0, slots := 0, locals := 0 } : Room).cells ({ frames := 0, cells := 0, slots := 0, locals := 0 } : Room).slots) := by
  refine MetFree.of_bodySF (Jvm.Free.JP.mathPlain rfl (by decide +kernel)) hisR ?_
  intro p e s m args below meth c s₁ Bd hml0 hP hK
  obtain ⟨rfl, hZ, hh⟩ := hP
  have hx := Bd.exec
  have hby := Bd.bytes
  have hml : c.maxLocals = 2 := hml0
  have hlk : meth.locks = false := BodyLoose.notSynchronized Bd
  have hown : s.vm.findClass "java/lang/Math" = some m.cls := findClass_of_methodNamed Bd.named
  have hnm := (name_of_methodNamed Bd.named Bd.method).1
  have X0 : Stand p l e ({ frames := 0, cells := 0, slots := 0, locals := 0 } : Room) s m #[(.int p0), (.int p1)] below meth c s₁ [] 0 0 := Stand.of_body Bd
  have e0 : s₁.heap = h0 := by rw [← hh, Bd.state]; rfl
  rw [own_ef3 m p0 p1]
  show own_Go p e below s ({ frames := 0, cells := 0, slots := 0, locals := 0 } : Room).cells ({ frames := 0, cells := 0, slots := 0, locals := 0 } : Room).slots (fun v h L => v = some (.int r) ∧ L = [] ∧ h = h0) s₁ (mkF m 0 #[.val (.int p0), .val (.int p1)] [])
  refine own_st (g' := (mkF m 2 #[.val (.int p0), .val (.int p1)] [(.int p1), (.int p0)])) (fun _ q => XS.iloadN X0.here hx rfl (hb hby own_d4_0) rfl (XS.iloadN X0.here hx rfl (hb hby own_d4_1) rfl (q))) ?_
  by_cases hc1 : p1 < p0
  · -- p1 < p0
    refine own_st (g' := (mkF m 10 #[.val (.int p0), .val (.int p1)] [(.int p1)])) (fun _ q => XS.icmpYes X0.here hx rfl (pc0 := 2) (pc' := 9) rfl (hb hby own_d4_2) rfl (tlt hc1).2.2.1 (by decide) (by decide) (XS.iloadN X0.here hx rfl (hb hby own_d4_9) rfl (q))) ?_
    exact own_goI X0 hlk hx Bd.returns (hb hby own_d4_10) ⟨by subst hr; rw [own_f_min, if_pos hc1] <;> rfl, rfl, e0⟩ (by decide) (by decide)
  · -- not: p1 < p0
    refine own_st (g' := (mkF m 10 #[.val (.int p0), .val (.int p1)] [(.int p0)])) (fun _ q => XS.icmpNo X0.here hx rfl (hb hby own_d4_2) rfl (flt hc1).2.2.1 (XS.iloadN X0.here hx rfl (hb hby own_d4_5) rfl (XS.goto X0.here hx rfl (pc0 := 6) (pc' := 10) rfl (hb hby own_d4_6) (by decide) (by decide) (q)))) ?_
    exact own_goI X0 hlk hx Bd.returns (hb hby own_d4_10) ⟨by subst hr; rw [own_f_min, if_neg hc1] <;> rfl, rfl, e0⟩ (by decide) (by decide)
theorem own_ef4 (m : MethodId) (x0 : Int32) : entryFrame m #[(.int x0)] 1 = mkF m 0 #[.val (.int x0)] [] := by first | rfl | (simp [entryFrame, mkF, argsToLocals, Value.category, maxLocals]; done)
theorem own_pn1 : plainName "java/lang/StringLatin1" = true := by first | (simp [plainName, overriddenIn]; done) | decide +kernel
theorem own_d5_0 : decode jdk_43_method_4_code 0 = .ok (.iload_n 0, 1) := by decide +kernel
theorem own_d5_1 : decode jdk_43_method_4_code 1 = .ok (.ifCond .lt 14, 3) := by decide +kernel
theorem own_d5_15 : decode jdk_43_method_4_code 15 = .ok (.iconst 0, 1) := by decide +kernel
theorem own_d5_16 : decode jdk_43_method_4_code 16 = .ok (.ireturn, 1) := by decide +kernel
theorem own_d5_4 : decode jdk_43_method_4_code 4 = .ok (.iload_n 0, 1) := by decide +kernel
theorem own_d5_5 : decode jdk_43_method_4_code 5 = .ok (.sipush 255, 3) := by decide +kernel
theorem own_d5_8 : decode jdk_43_method_4_code 8 = .ok (.if_icmp .gt 7, 3) := by decide +kernel
theorem own_d5_11 : decode jdk_43_method_4_code 11 = .ok (.iconst 1, 1) := by decide +kernel
theorem own_d5_12 : decode jdk_43_method_4_code 12 = .ok (.goto 4, 3) := by decide +kernel
def own_f_can (p0 : Int32) : Int32 := (if p0 < (0 : Int32) then (0 : Int32) else (if (255 : Int32) < p0 then (0 : Int32) else (1 : Int32)))
set_option maxRecDepth 65536 in
set_option maxHeartbeats 40000000 in
theorem own_rm_can (l : Launch) (Z : State) (a0 : Array Value) (hw : ∀ d ∈ tables_1, d.before a0 Z = true) (ws : List Jvm.Cond) (p0 : Int32) (r : Int32) (h0 : Heap)  (hr : r = (own_f_can p0)) :
    MetFree l (⟨"java/lang/StringLatin1", "canEncode", "(I)Z"⟩ : MethodName) (head1 (Jvm.Cond.code (⟨"java/lang/StringLatin1", "canEncode", "(I)Z"⟩ : MethodName) jdk_43_method_4_code 1 (some .boolean) :: ws) ({ frames := 0, cells := 0, slots := 0, locals := 0 } : Room)) (fun aa U => aa = #[(.int p0)] ∧ Z.Warmed39 U.vm ∧ U.heap = h0) (fun _ _ _ _ _ => True) (fun _ U o U' => ∃ v L, o = .returned v ∧ (fun v h L => v = some (.int r) ∧ L = [] ∧ h = h0) v U'.heap L ∧ FrameEnd U o U' L ({ frames := 0, cells := 0, slots := 0, locals := 0 } : Room).cells ({ frames := 0, cells := 0, slots := 0, locals := 0 } : Room).slots) := by
  refine MetFree.of_bodySF (plainFor_of_name own_pn1) hisR ?_
  intro p e s m args below meth c s₁ Bd hml0 hP hK
  obtain ⟨rfl, hZ, hh⟩ := hP
  have hx := Bd.exec
  have hby := Bd.bytes
  have hml : c.maxLocals = 1 := hml0
  have hlk : meth.locks = false := BodyLoose.notSynchronized Bd
  have hown : s.vm.findClass "java/lang/StringLatin1" = some m.cls := findClass_of_methodNamed Bd.named
  have hnm := (name_of_methodNamed Bd.named Bd.method).1
  have X0 : Stand p l e ({ frames := 0, cells := 0, slots := 0, locals := 0 } : Room) s m #[(.int p0)] below meth c s₁ [] 0 0 := Stand.of_body Bd
  have e0 : s₁.heap = h0 := by rw [← hh, Bd.state]; rfl
  rw [own_ef4 m p0]
  show own_Go p e below s ({ frames := 0, cells := 0, slots := 0, locals := 0 } : Room).cells ({ frames := 0, cells := 0, slots := 0, locals := 0 } : Room).slots (fun v h L => v = some (.int r) ∧ L = [] ∧ h = h0) s₁ (mkF m 0 #[.val (.int p0)] [])
  refine own_st (g' := (mkF m 1 #[.val (.int p0)] [(.int p0)])) (fun _ q => XS.iloadN X0.here hx rfl (hb hby own_d5_0) rfl (q)) ?_
  by_cases hc1 : p0 < (0 : Int32)
  · -- p0 < (0 : Int32)
    refine own_st (g' := (mkF m 16 #[.val (.int p0)] [(.int (0 : Int32))])) (fun _ q => XS.ifYes X0.here hx rfl (pc0 := 1) (pc' := 15) rfl (hb hby own_d5_1) rfl ((if0 _ _).trans (tlt hc1).1) (by decide) (by decide) (XS.iconst X0.here hx rfl (hb hby own_d5_15) (q))) ?_
    exact own_goN X0 hlk hx (t := .boolean) (by simp) Bd.returns (hb hby own_d5_16) ⟨by subst hr; rw [own_f_can, if_pos hc1] <;> rfl, rfl, e0⟩ (by decide) (by decide)
  · -- not: p0 < (0 : Int32)
    refine own_st (g' := (mkF m 8 #[.val (.int p0)] [(.int (255 : Int32)), (.int p0)])) (fun _ q => XS.ifNo X0.here hx rfl (hb hby own_d5_1) rfl ((if0 _ _).trans (flt hc1).1) (XS.iloadN X0.here hx rfl (hb hby own_d5_4) rfl (XS.sipush X0.here hx rfl (hb hby own_d5_5) (q)))) ?_
    by_cases hc2 : (255 : Int32) < p0
    · -- (255 : Int32) < p0
      refine own_st (g' := (mkF m 16 #[.val (.int p0)] [(.int (0 : Int32))])) (fun _ q => XS.icmpYes X0.here hx rfl (pc0 := 8) (pc' := 15) rfl (hb hby own_d5_8) rfl (tlt hc2).2.2.1 (by decide) (by decide) (XS.iconst X0.here hx rfl (hb hby own_d5_15) (q))) ?_
      exact own_goN X0 hlk hx (t := .boolean) (by simp) Bd.returns (hb hby own_d5_16) ⟨by subst hr; rw [own_f_can, if_neg hc1, if_pos hc2] <;> rfl, rfl, e0⟩ (by decide) (by decide)
    · -- not: (255 : Int32) < p0
      refine own_st (g' := (mkF m 16 #[.val (.int p0)] [(.int (1 : Int32))])) (fun _ q => XS.icmpNo X0.here hx rfl (hb hby own_d5_8) rfl (flt hc2).2.2.1 (XS.iconst X0.here hx rfl (hb hby own_d5_11) (XS.goto X0.here hx rfl (pc0 := 12) (pc' := 16) rfl (hb hby own_d5_12) (by decide) (by decide) (q)))) ?_
      exact own_goN X0 hlk hx (t := .boolean) (by simp) Bd.returns (hb hby own_d5_16) ⟨by subst hr; rw [own_f_can, if_neg hc1, if_neg hc2] <;> rfl, rfl, e0⟩ (by decide) (by decide)
theorem own_ef5 (m : MethodId) (x0 : Addr) : entryFrame m #[(.ref x0)] 1 = mkF m 0 #[.val (.ref x0)] [] := by first | rfl | (simp [entryFrame, mkF, argsToLocals, Value.category, maxLocals]; done)
theorem own_pn2 : plainName "java/lang/String" = true := by first | (simp [plainName, overriddenIn]; done) | decide +kernel
theorem own_d6_0 : decode jdk_42_method_154_code 0 = .ok (.getstatic 38, 3) := by decide +kernel
theorem own_d6_3 : decode jdk_42_method_154_code 3 = .ok (.ifCond .eq 14, 3) := by decide +kernel
theorem own_d6_6 : decode jdk_42_method_154_code 6 = .ok (.aload_n 0, 1) := by decide +kernel
theorem own_d6_7 : decode jdk_42_method_154_code 7 = .ok (.getfield 15, 3) := by decide +kernel
theorem own_d6_10 : decode jdk_42_method_154_code 10 = .ok (.ifCond .ne 7, 3) := by decide +kernel
theorem own_d6_13 : decode jdk_42_method_154_code 13 = .ok (.iconst 1, 1) := by decide +kernel
theorem own_d6_14 : decode jdk_42_method_154_code 14 = .ok (.goto 4, 3) := by decide +kernel
theorem own_d6_18 : decode jdk_42_method_154_code 18 = .ok (.ireturn, 1) := by decide +kernel
def own_f_isL  : Int32 := (1 : Int32)
set_option maxRecDepth 65536 in
set_option maxHeartbeats 40000000 in
theorem own_rm_isL (l : Launch) (Z : State) (a0 : Array Value) (hw : ∀ d ∈ tables_1, d.before a0 Z = true) (ws : List Jvm.Cond) (x : Addr) (z : Int32) (r : Int32) (h0 : Heap) (S : Sta Z h0 "java/lang/String" "COMPACT_STRINGS" "Z" (.int z)) (hz : ¬ z = (0 : Int32)) (C : Fld Z h0 x "java/lang/String" "coder" "B" (.int (0 : Int32))) (hr : r = (own_f_isL )) :
    MetFree l (⟨"java/lang/String", "isLatin1", "()Z"⟩ : MethodName) (head1 (Jvm.Cond.code (⟨"java/lang/String", "isLatin1", "()Z"⟩ : MethodName) jdk_42_method_154_code 1 (some .boolean) :: ws) ({ frames := 0, cells := 0, slots := 0, locals := 0 } : Room)) (fun aa U => aa = #[(.ref x)] ∧ Z.Warmed39 U.vm ∧ U.heap = h0) (fun _ _ _ _ _ => True) (fun _ U o U' => ∃ v L, o = .returned v ∧ (fun v h L => v = some (.int r) ∧ L = [] ∧ h = h0) v U'.heap L ∧ FrameEnd U o U' L ({ frames := 0, cells := 0, slots := 0, locals := 0 } : Room).cells ({ frames := 0, cells := 0, slots := 0, locals := 0 } : Room).slots) := by
  refine MetFree.of_bodySF (plainFor_of_name own_pn2) hisR ?_
  intro p e s m args below meth c s₁ Bd hml0 hP hK
  obtain ⟨rfl, hZ, hh⟩ := hP
  have hx := Bd.exec
  have hby := Bd.bytes
  have hml : c.maxLocals = 1 := hml0
  have hlk : meth.locks = false := BodyLoose.notSynchronized Bd
  have hown : s.vm.findClass "java/lang/String" = some m.cls := findClass_of_methodNamed Bd.named
  have hnm := (name_of_methodNamed Bd.named Bd.method).1
  have X0 : Stand p l e ({ frames := 0, cells := 0, slots := 0, locals := 0 } : Room) s m #[(.ref x)] below meth c s₁ [] 0 0 := Stand.of_body Bd
  have e0 : s₁.heap = h0 := by rw [← hh, Bd.state]; rfl
  rw [own_ef5 m x]
  show own_Go p e below s ({ frames := 0, cells := 0, slots := 0, locals := 0 } : Room).cells ({ frames := 0, cells := 0, slots := 0, locals := 0 } : Room).slots (fun v h L => v = some (.int r) ∧ L = [] ∧ h = h0) s₁ (mkF m 0 #[.val (.ref x)] [])
  obtain ⟨T1, X1, e1, st1⟩ := getS2 X0 hx hZ hown (host := "") (Or.inl (hw _ (List.mem_of_getElem? (i := 18) rfl))) Via.refl e0 S (g := (mkF m 0 #[.val (.ref x)] [])) rfl (hb hby own_d6_0)
  refine own_st (g' := (mkF m 3 #[.val (.ref x)] [(.int z)])) st1 ?_
  refine own_st (g' := (mkF m 7 #[.val (.ref x)] [(.ref x)])) (fun _ q => XS.ifNo X1.here hx rfl (hb hby own_d6_3) rfl ((if0 _ _).trans (feq hz).1) (XS.aloadN X1.here hx rfl (hb hby own_d6_6) rfl rfl (q))) ?_
  obtain ⟨T2, X2, e2, st2⟩ := getF X1 hx hZ hown (host := "") (Or.inl (hw _ (List.mem_of_getElem? (i := 30) rfl))) Via.refl e1 C (g := (mkF m 7 #[.val (.ref x)] [(.ref x)])) rfl rfl (hb hby own_d6_7)
  refine own_st (g' := (mkF m 10 #[.val (.ref x)] [(.int (0 : Int32))])) st2 ?_
  refine own_st (g' := (mkF m 18 #[.val (.ref x)] [(.int (1 : Int32))])) (fun _ q => XS.ifNo X2.here hx rfl (hb hby own_d6_10) rfl ((if0 _ _).trans (teq (by decide : (0 : Int32) = (0 : Int32))).2) (XS.iconst X2.here hx rfl (hb hby own_d6_13) (XS.goto X2.here hx rfl (pc0 := 14) (pc' := 18) rfl (hb hby own_d6_14) (by decide) (by decide) (q)))) ?_
  exact own_goN X2 hlk hx (t := .boolean) (by simp) Bd.returns (hb hby own_d6_18) ⟨by subst hr; rfl, rfl, e2⟩ (by decide) (by decide)
theorem own_d7_0 : decode jdk_42_method_152_code 0 = .ok (.getstatic 38, 3) := by decide +kernel
theorem own_d7_3 : decode jdk_42_method_152_code 3 = .ok (.ifCond .eq 10, 3) := by decide +kernel
theorem own_d7_6 : decode jdk_42_method_152_code 6 = .ok (.aload_n 0, 1) := by decide +kernel
theorem own_d7_7 : decode jdk_42_method_152_code 7 = .ok (.getfield 15, 3) := by decide +kernel
theorem own_d7_10 : decode jdk_42_method_152_code 10 = .ok (.goto 4, 3) := by decide +kernel
theorem own_d7_14 : decode jdk_42_method_152_code 14 = .ok (.ireturn, 1) := by decide +kernel
def own_f_cdr  : Int32 := (0 : Int32)
set_option maxRecDepth 65536 in
set_option maxHeartbeats 40000000 in
theorem own_rm_cdr (l : Launch) (Z : State) (a0 : Array Value) (hw : ∀ d ∈ tables_1, d.before a0 Z = true) (ws : List Jvm.Cond) (x : Addr) (z : Int32) (r : Int32) (h0 : Heap) (S : Sta Z h0 "java/lang/String" "COMPACT_STRINGS" "Z" (.int z)) (hz : ¬ z = (0 : Int32)) (C : Fld Z h0 x "java/lang/String" "coder" "B" (.int (0 : Int32))) (hr : r = (own_f_cdr )) :
    MetFree l (⟨"java/lang/String", "coder", "()B"⟩ : MethodName) (head1 (Jvm.Cond.code (⟨"java/lang/String", "coder", "()B"⟩ : MethodName) jdk_42_method_152_code 1 (some .byte) :: ws) ({ frames := 0, cells := 0, slots := 0, locals := 0 } : Room)) (fun aa U => aa = #[(.ref x)] ∧ Z.Warmed39 U.vm ∧ U.heap = h0) (fun _ _ _ _ _ => True) (fun _ U o U' => ∃ v L, o = .returned v ∧ (fun v h L => v = some (.int r) ∧ L = [] ∧ h = h0) v U'.heap L ∧ FrameEnd U o U' L ({ frames := 0, cells := 0, slots := 0, locals := 0 } : Room).cells ({ frames := 0, cells := 0, slots := 0, locals := 0 } : Room).slots) := by
  refine MetFree.of_bodySF (plainFor_of_name own_pn2) hisR ?_
  intro p e s m args below meth c s₁ Bd hml0 hP hK
  obtain ⟨rfl, hZ, hh⟩ := hP
  have hx := Bd.exec
  have hby := Bd.bytes
  have hml : c.maxLocals = 1 := hml0
  have hlk : meth.locks = false := BodyLoose.notSynchronized Bd
  have hown : s.vm.findClass "java/lang/String" = some m.cls := findClass_of_methodNamed Bd.named
  have hnm := (name_of_methodNamed Bd.named Bd.method).1
  have X0 : Stand p l e ({ frames := 0, cells := 0, slots := 0, locals := 0 } : Room) s m #[(.ref x)] below meth c s₁ [] 0 0 := Stand.of_body Bd
  have e0 : s₁.heap = h0 := by rw [← hh, Bd.state]; rfl
  rw [own_ef5 m x]
  show own_Go p e below s ({ frames := 0, cells := 0, slots := 0, locals := 0 } : Room).cells ({ frames := 0, cells := 0, slots := 0, locals := 0 } : Room).slots (fun v h L => v = some (.int r) ∧ L = [] ∧ h = h0) s₁ (mkF m 0 #[.val (.ref x)] [])
  obtain ⟨T1, X1, e1, st1⟩ := getS2 X0 hx hZ hown (host := "") (Or.inl (hw _ (List.mem_of_getElem? (i := 18) rfl))) Via.refl e0 S (g := (mkF m 0 #[.val (.ref x)] [])) rfl (hb hby own_d7_0)
  refine own_st (g' := (mkF m 3 #[.val (.ref x)] [(.int z)])) st1 ?_
  refine own_st (g' := (mkF m 7 #[.val (.ref x)] [(.ref x)])) (fun _ q => XS.ifNo X1.here hx rfl (hb hby own_d7_3) rfl ((if0 _ _).trans (feq hz).1) (XS.aloadN X1.here hx rfl (hb hby own_d7_6) rfl rfl (q))) ?_
  obtain ⟨T2, X2, e2, st2⟩ := getF X1 hx hZ hown (host := "") (Or.inl (hw _ (List.mem_of_getElem? (i := 30) rfl))) Via.refl e1 C (g := (mkF m 7 #[.val (.ref x)] [(.ref x)])) rfl rfl (hb hby own_d7_7)
  refine own_st (g' := (mkF m 10 #[.val (.ref x)] [(.int (0 : Int32))])) st2 ?_
  refine own_st (g' := (mkF m 14 #[.val (.ref x)] [(.int (0 : Int32))])) (fun _ q => XS.goto X2.here hx rfl (pc0 := 10) (pc' := 14) rfl (hb hby own_d7_10) (by decide) (by decide) (q)) ?_
  exact own_goN X2 hlk hx (t := .byte) (by simp) Bd.returns (hb hby own_d7_14) ⟨by subst hr; rfl, rfl, e2⟩ (by decide) (by decide)
theorem own_d8_0 : decode jdk_42_method_54_code 0 = .ok (.aload_n 0, 1) := by decide +kernel
theorem own_d8_1 : decode jdk_42_method_54_code 1 = .ok (.getfield 9, 3) := by decide +kernel
theorem own_d8_4 : decode jdk_42_method_54_code 4 = .ok (.arraylength, 1) := by decide +kernel
theorem own_d8_5 : decode jdk_42_method_54_code 5 = .ok (.aload_n 0, 1) := by decide +kernel
theorem own_d8_6 : decode jdk_42_method_54_code 6 = .ok (.invokevirtual 335, 3) := by decide +kernel
theorem own_pd1 : parseMethodDescriptor "()B" = some ⟨[], some .byte⟩ := by decide +kernel
theorem own_d8_9 : decode jdk_42_method_54_code 9 = .ok (.ishr, 1) := by decide +kernel
theorem own_d8_10 : decode jdk_42_method_54_code 10 = .ok (.ireturn, 1) := by decide +kernel
def own_f_len (n : Int32) : Int32 := (n >>> (own_f_cdr &&& 31))
set_option maxRecDepth 65536 in
set_option maxHeartbeats 40000000 in
theorem own_rm_len (l : Launch) (Z : State) (a0 : Array Value) (hw : ∀ d ∈ tables_1, d.before a0 Z = true) (ws : List Jvm.Cond) (x t : Addr) (kb : ClassId) (bs : List Int32) (n z : Int32) (r : Int32) (h0 : Heap) (S : Sta Z h0 "java/lang/String" "COMPACT_STRINGS" "Z" (.int z)) (hz : ¬ z = (0 : Int32)) (C : Fld Z h0 x "java/lang/String" "coder" "B" (.int (0 : Int32))) (E : Exa Z h0 x "java/lang/String") (F : Fld Z h0 x "java/lang/String" "value" "[B" (.ref t)) (K : Arv Z h0 t kb .byte n (bs.map Value.int) (.int (0 : Int32))) (hr : r = (own_f_len n)) :
    MetFree l (⟨"java/lang/String", "length", "()I"⟩ : MethodName) (head1 (Jvm.Cond.code (⟨"java/lang/String", "length", "()I"⟩ : MethodName) jdk_42_method_54_code 1 (some .int) :: ws) ({ frames := 1, cells := 0, slots := 0, locals := 13 } : Room)) (fun aa U => aa = #[(.ref x)] ∧ Z.Warmed39 U.vm ∧ U.heap = h0) (fun _ _ _ _ _ => True) (fun _ U o U' => ∃ v L, o = .returned v ∧ (fun v h L => v = some (.int r) ∧ L = [] ∧ h = h0) v U'.heap L ∧ FrameEnd U o U' L ({ frames := 1, cells := 0, slots := 0, locals := 13 } : Room).cells ({ frames := 1, cells := 0, slots := 0, locals := 13 } : Room).slots) := by
  refine MetFree.of_bodySF (plainFor_of_name own_pn2) hisR ?_
  intro p e s m args below meth c s₁ Bd hml0 hP hK
  obtain ⟨rfl, hZ, hh⟩ := hP
  have hx := Bd.exec
  have hby := Bd.bytes
  have hml : c.maxLocals = 1 := hml0
  have hlk : meth.locks = false := BodyLoose.notSynchronized Bd
  have hown : s.vm.findClass "java/lang/String" = some m.cls := findClass_of_methodNamed Bd.named
  have hnm := (name_of_methodNamed Bd.named Bd.method).1
  have X0 : Stand p l e ({ frames := 1, cells := 0, slots := 0, locals := 13 } : Room) s m #[(.ref x)] below meth c s₁ [] 0 0 := Stand.of_body Bd
  have e0 : s₁.heap = h0 := by rw [← hh, Bd.state]; rfl
  rw [own_ef5 m x]
  show own_Go p e below s ({ frames := 1, cells := 0, slots := 0, locals := 13 } : Room).cells ({ frames := 1, cells := 0, slots := 0, locals := 13 } : Room).slots (fun v h L => v = some (.int r) ∧ L = [] ∧ h = h0) s₁ (mkF m 0 #[.val (.ref x)] [])
  refine own_st (g' := (mkF m 1 #[.val (.ref x)] [(.ref x)])) (fun _ q => XS.aloadN X0.here hx rfl (hb hby own_d8_0) rfl rfl (q)) ?_
  obtain ⟨T1, X1, e1, st1⟩ := getF X0 hx hZ hown (host := "") (Or.inl (hw _ (List.mem_of_getElem? (i := 32) rfl))) Via.refl e0 F (g := (mkF m 1 #[.val (.ref x)] [(.ref x)])) rfl rfl (hb hby own_d8_1)
  refine own_st (g' := (mkF m 4 #[.val (.ref x)] [(.ref t)])) st1 ?_
  refine own_st (g' := (mkF m 5 #[.val (.ref x)] [(.int n)])) (own_alen X1 hx hZ e1 K (hb hby own_d8_4)) ?_
  refine own_st (g' := (mkF m 6 #[.val (.ref x)] [(.ref x), (.int n)])) (fun _ q => XS.aloadN X1.here hx rfl (hb hby own_d8_5) rfl rfl (q)) ?_
  obtain ⟨r2, hr2⟩ : ∃ z : Int32, z = own_f_cdr := ⟨_, rfl⟩
  have K2 : own_Bk l ({ frames := 1, cells := 0, slots := 0, locals := 13 } : Room) p e below s #[(.ref x)] (⟨"java/lang/String", "coder", "()B"⟩ : MethodName) 1 h0 #[(.ref x)] 0 0 (fun v h L => v = some (.int r2) ∧ L = [] ∧ h = h0) := backOf (R := ({ frames := 1, cells := 0, slots := 0, locals := 13 } : Room)) (W := 1) (Q := (fun v h L => v = some (.int r2) ∧ L = [] ∧ h = h0)) (rm := ({ frames := 0, cells := 0, slots := 0, locals := 0 } : Room)) (own_rm_cdr l Z a0 hw [] x z r2 h0 S hz C (by rw [hr2])) hZ (hw _ (List.mem_of_getElem? (i := 57) rfl)) (hw _ (List.mem_of_getElem? (i := 7) rfl)) (by decide) (by decide)
  obtain ⟨T3, X3, e3, st3⟩ := own_pure (own_cV X1 hx hZ hown (hw _ (List.mem_of_getElem? (i := 53) rfl)) (hw _ (List.mem_of_getElem? (i := 54) rfl)) (notFace_of_selects (args := #[]) (mvT hZ (hw _ (List.mem_of_getElem? (i := 56) rfl)))) (hw _ (List.mem_of_getElem? (i := 56) rfl)) (hw _ (List.mem_of_getElem? (i := 55) rfl)) (by decide) e1 (h := h0) (b := x) E (argsL := []) (rest := [(.int n)]) K2 (pc := 6) (Ls := #[.val (.ref x)]) (by rw [hml]; rfl) (lenOf own_pd1 rfl) rfl (Nat.le_of_eq rfl) (hb hby own_d8_6) (by decide) (by decide))
  refine own_st (g' := (mkF m 9 #[.val (.ref x)] [(.int r2), (.int n)])) st3 ?_
  refine own_st (g' := (mkF m 10 #[.val (.ref x)] [(.int (n >>> (r2 &&& 31)))])) (fun _ q => XS.ishr X3.here hx rfl (hb hby own_d8_9) rfl (q)) ?_
  exact own_goI X3 hlk hx Bd.returns (hb hby own_d8_10) ⟨by subst hr hr2; rfl, rfl, e3⟩ (by decide) (by decide)
/-- the first place from i on, among k places, that holds b -/
def own_scan (b : Int32) (bs : List Int32) : Nat → Nat → Int32
  | 0, _ => (-1 : Int32)
  | k + 1, i => if bs.getD i 0 = b then Int32.ofNat i else own_scan b bs k (i + 1)
theorem own_scan0 (b : Int32) (bs : List Int32) (i : Nat) : own_scan b bs 0 i = (-1 : Int32) := rfl
theorem own_scanS (b : Int32) (bs : List Int32) (k i : Nat) : own_scan b bs (k + 1) i = if bs.getD i 0 = b then Int32.ofNat i else own_scan b bs k (i + 1) := rfl
theorem own_ltN {i j : Nat} (hj : j < 2 ^ 31) (h : i < j) : Int32.ofNat i < Int32.ofNat j := by
  rw [Int32.lt_iff_toInt_lt, Int32.toInt_ofNat_small (by omega), Int32.toInt_ofNat_small hj]; omega
theorem own_nltN {i j : Nat} (hi : i < 2 ^ 31) (h : ¬ i < j) : ¬ Int32.ofNat i < Int32.ofNat j := by
  rw [Int32.lt_iff_toInt_lt, Int32.toInt_ofNat_small hi, Int32.toInt_ofNat_small (by omega)]; omega
theorem own_nnN {i : Nat} (hi : i < 2 ^ 31) : ¬ Int32.ofNat i < 0 := by
  rw [Int32.lt_iff_toInt_lt, Int32.toInt_ofNat_small hi]; show ¬ (i : Int) < 0; omega
theorem own_clN {i : Nat} (hi : i < 2 ^ 31) : (Int32.ofNat i).toNatClampNeg = i := by
  simp only [Int32.toNatClampNeg, Int32.toInt_ofNat_small hi]; rfl
theorem own_inc (i : Nat) : Int32.ofNat i + (1 : Int32) = Int32.ofNat (i + 1) := by
  apply Int32.toBitVec_inj.mp
  show BitVec.ofNat 32 i + 1#32 = BitVec.ofNat 32 (i + 1)
  apply BitVec.eq_of_toNat_eq; simp
theorem own_getB {bs : List Int32} {i : Nat} (hi : i < 2 ^ 31) : (bs.map Value.int).getD (Int32.ofNat i).toNatClampNeg (.int (0 : Int32)) = .int (bs.getD i 0) := by
  rw [own_clN hi]; simp only [List.getD_eq_getElem?_getD, List.getElem?_map]; cases bs[i]? <;> rfl
theorem own_ef6 (m : MethodId) (x0 : Addr) (x1 : Int32) (x2 : Int32) (x3 : Int32) : entryFrame m #[(.ref x0), (.int x1), (.int x2), (.int x3)] 6 = mkF m 0 #[.val (.ref x0), .val (.int x1), .val (.int x2), .val (.int x3), .unset, .unset] [] := by first | rfl | (simp [entryFrame, mkF, argsToLocals, Value.category, maxLocals]; done)
theorem own_d9_0 : decode jdk_43_method_23_code 0 = .ok (.iload_n 1, 1) := by decide +kernel
theorem own_d9_1 : decode jdk_43_method_23_code 1 = .ok (.i2b, 1) := by decide +kernel
theorem own_d9_2 : decode jdk_43_method_23_code 2 = .ok (.istore 4, 2) := by decide +kernel
theorem own_d9_4 : decode jdk_43_method_23_code 4 = .ok (.iload_n 2, 1) := by decide +kernel
theorem own_d9_5 : decode jdk_43_method_23_code 5 = .ok (.istore 5, 2) := by decide +kernel
theorem own_d9_7 : decode jdk_43_method_23_code 7 = .ok (.iload 5, 2) := by decide +kernel
theorem own_d9_9 : decode jdk_43_method_23_code 9 = .ok (.iload_n 3, 1) := by decide +kernel
theorem own_d9_10 : decode jdk_43_method_23_code 10 = .ok (.if_icmp .ge 21, 3) := by decide +kernel
theorem own_d9_31 : decode jdk_43_method_23_code 31 = .ok (.iconst (-1), 1) := by decide +kernel
theorem own_d9_32 : decode jdk_43_method_23_code 32 = .ok (.ireturn, 1) := by decide +kernel
theorem own_d9_13 : decode jdk_43_method_23_code 13 = .ok (.aload_n 0, 1) := by decide +kernel
theorem own_d9_14 : decode jdk_43_method_23_code 14 = .ok (.iload 5, 2) := by decide +kernel
theorem own_d9_16 : decode jdk_43_method_23_code 16 = .ok (.baload, 1) := by decide +kernel
theorem own_d9_17 : decode jdk_43_method_23_code 17 = .ok (.iload 4, 2) := by decide +kernel
theorem own_d9_19 : decode jdk_43_method_23_code 19 = .ok (.if_icmp .ne 6, 3) := by decide +kernel
theorem own_d9_22 : decode jdk_43_method_23_code 22 = .ok (.iload 5, 2) := by decide +kernel
theorem own_d9_24 : decode jdk_43_method_23_code 24 = .ok (.ireturn, 1) := by decide +kernel
theorem own_d9_25 : decode jdk_43_method_23_code 25 = .ok (.iinc 5 1, 3) := by decide +kernel
theorem own_d9_28 : decode jdk_43_method_23_code 28 = .ok (.goto (-21), 3) := by decide +kernel
set_option maxRecDepth 65536 in
set_option maxHeartbeats 40000000 in
theorem own_rm_ioc (l : Launch) (Z : State) (a0 : Array Value) (hw : ∀ d ∈ tables_1, d.before a0 Z = true) (ws : List Jvm.Cond) (a : Addr) (kb : ClassId) (bs : List Int32) (n ch fr mx : Int32) (i0 m0 : Nat) (r : Int32) (h0 : Heap) (V : Arv Z h0 a kb .byte n (bs.map Value.int) (.int (0 : Int32))) (hn : n = Int32.ofNat bs.length) (hbl : bs.length < 2 ^ 31) (hi : fr = Int32.ofNat i0) (hm : mx = Int32.ofNat m0) (him : i0 ≤ m0) (hmb : m0 ≤ bs.length) (hr : r = own_scan (ch.toInt8.toInt32) bs (m0 - i0) i0) :
    MetFree l (⟨"java/lang/StringLatin1", "indexOfChar", "([BIII)I"⟩ : MethodName) (head1 (Jvm.Cond.code (⟨"java/lang/StringLatin1", "indexOfChar", "([BIII)I"⟩ : MethodName) jdk_43_method_23_code 6 (some .int) :: ws) ({ frames := 0, cells := 0, slots := 0, locals := 0 } : Room)) (fun aa U => aa = #[(.ref a), (.int ch), (.int fr), (.int mx)] ∧ Z.Warmed39 U.vm ∧ U.heap = h0) (fun _ _ _ _ _ => True) (fun _ U o U' => ∃ v L, o = .returned v ∧ (fun v h L => v = some (.int r) ∧ L = [] ∧ h = h0) v U'.heap L ∧ FrameEnd U o U' L ({ frames := 0, cells := 0, slots := 0, locals := 0 } : Room).cells ({ frames := 0, cells := 0, slots := 0, locals := 0 } : Room).slots) := by
  refine MetFree.of_bodySF (plainFor_of_name own_pn1) hisR ?_
  intro p e s m args below meth c s₁ Bd hml0 hP hK
  obtain ⟨rfl, hZ, hh⟩ := hP
  have hx := Bd.exec
  have hby := Bd.bytes
  have hml : c.maxLocals = 6 := hml0
  have hlk : meth.locks = false := BodyLoose.notSynchronized Bd
  have hown : s.vm.findClass "java/lang/StringLatin1" = some m.cls := findClass_of_methodNamed Bd.named
  have hnm := (name_of_methodNamed Bd.named Bd.method).1
  have X0 : Stand p l e ({ frames := 0, cells := 0, slots := 0, locals := 0 } : Room) s m #[(.ref a), (.int ch), (.int fr), (.int mx)] below meth c s₁ [] 0 0 := Stand.of_body Bd
  have e0 : s₁.heap = h0 := by rw [← hh, Bd.state]; rfl
  rw [own_ef6 m a ch fr mx]
  show own_Go p e below s ({ frames := 0, cells := 0, slots := 0, locals := 0 } : Room).cells ({ frames := 0, cells := 0, slots := 0, locals := 0 } : Room).slots (fun v h L => v = some (.int r) ∧ L = [] ∧ h = h0) s₁ (mkF m 0 #[.val (.ref a), .val (.int ch), .val (.int fr), .val (.int mx), .unset, .unset] [])
  refine own_st (g' := (mkF m 7 #[.val (.ref a), .val (.int ch), .val (.int fr), .val (.int mx), .val (.int (ch.toInt8.toInt32)), .val (.int fr)] [])) (fun _ q => XS.iloadN X0.here hx rfl (hb hby own_d9_0) rfl (XS.i2b X0.here hx rfl (hb hby own_d9_1) rfl (XS.istore X0.here hx rfl (hb hby own_d9_2) rfl (l' := #[.val (.ref a), .val (.int ch), .val (.int fr), .val (.int mx), .val (.int (ch.toInt8.toInt32)), .unset]) rfl (XS.iloadN X0.here hx rfl (hb hby own_d9_4) rfl (XS.istore X0.here hx rfl (hb hby own_d9_5) rfl (l' := #[.val (.ref a), .val (.int ch), .val (.int fr), .val (.int mx), .val (.int (ch.toInt8.toInt32)), .val (.int fr)]) rfl (q)))))) ?_
  subst hi hm hn hr
  suffices hloop : ∀ (q i : Nat) (T : State), Stand p l e ({ frames := 0, cells := 0, slots := 0, locals := 0 } : Room) s m #[(.ref a), (.int ch), (.int (Int32.ofNat i0)), (.int (Int32.ofNat m0))] below meth c T [] 0 0 → T.heap = h0 → i + q = m0 → own_Go p e below s ({ frames := 0, cells := 0, slots := 0, locals := 0 } : Room).cells ({ frames := 0, cells := 0, slots := 0, locals := 0 } : Room).slots (fun v h L => v = some (.int (own_scan (ch.toInt8.toInt32) bs q i)) ∧ L = [] ∧ h = h0) T (mkF m 7 #[.val (.ref a), .val (.int ch), .val (.int (Int32.ofNat i0)), .val (.int (Int32.ofNat m0)), .val (.int (ch.toInt8.toInt32)), .val (.int (Int32.ofNat i))] []) from hloop (m0 - i0) i0 _ X0 e0 (by omega)
  intro q
  induction q with
  | zero =>
    intro i T X eT hq
    have hnl : ¬ (Int32.ofNat i < Int32.ofNat m0) := own_nltN (by omega) (by omega)
    refine own_st (g' := (mkF m 32 #[.val (.ref a), .val (.int ch), .val (.int (Int32.ofNat i0)), .val (.int (Int32.ofNat m0)), .val (.int (ch.toInt8.toInt32)), .val (.int (Int32.ofNat i))] [(.int (-1 : Int32))])) (fun _ q => XS.iload X.here hx rfl (hb hby own_d9_7) rfl (XS.iloadN X.here hx rfl (hb hby own_d9_9) rfl (XS.icmpYes X.here hx rfl (pc0 := 10) (pc' := 31) rfl (hb hby own_d9_10) rfl (flt hnl).2.1 (by decide) (by decide) (XS.iconst X.here hx rfl (hb hby own_d9_31) (q))))) ?_
    exact own_goI X hlk hx Bd.returns (hb hby own_d9_32) ⟨by rw [own_scan0], rfl, eT⟩ (by decide) (by decide)
  | succ q ih =>
    intro i T X eT hq
    have hnl : Int32.ofNat i < Int32.ofNat m0 := own_ltN (by omega) (by omega)
    refine own_st (g' := (mkF m 16 #[.val (.ref a), .val (.int ch), .val (.int (Int32.ofNat i0)), .val (.int (Int32.ofNat m0)), .val (.int (ch.toInt8.toInt32)), .val (.int (Int32.ofNat i))] [(.int (Int32.ofNat i)), (.ref a)])) (fun _ q => XS.iload X.here hx rfl (hb hby own_d9_7) rfl (XS.iloadN X.here hx rfl (hb hby own_d9_9) rfl (XS.icmpNo X.here hx rfl (hb hby own_d9_10) rfl (tlt hnl).2.1 (XS.aloadN X.here hx rfl (hb hby own_d9_13) rfl rfl (XS.iload X.here hx rfl (hb hby own_d9_14) rfl (q)))))) ?_
    refine own_st (g' := (mkF m 17 #[.val (.ref a), .val (.int ch), .val (.int (Int32.ofNat i0)), .val (.int (Int32.ofNat m0)), .val (.int (ch.toInt8.toInt32)), .val (.int (Int32.ofNat i))] [(.int (bs.getD i 0))])) (own_bald X hx hZ eT V ⟨own_nnN (by omega), own_ltN (by omega) (by omega)⟩ (own_getB (by omega)) (hb hby own_d9_16)) ?_
    refine own_st (g' := (mkF m 19 #[.val (.ref a), .val (.int ch), .val (.int (Int32.ofNat i0)), .val (.int (Int32.ofNat m0)), .val (.int (ch.toInt8.toInt32)), .val (.int (Int32.ofNat i))] [(.int (ch.toInt8.toInt32)), (.int (bs.getD i 0))])) (fun _ q => XS.iload X.here hx rfl (hb hby own_d9_17) rfl (q)) ?_
    by_cases hc1 : (bs.getD i 0) = (ch.toInt8.toInt32)
    · -- (bs.getD i 0) = (ch.toInt8.toInt32)
      refine own_st (g' := (mkF m 24 #[.val (.ref a), .val (.int ch), .val (.int (Int32.ofNat i0)), .val (.int (Int32.ofNat m0)), .val (.int (ch.toInt8.toInt32)), .val (.int (Int32.ofNat i))] [(.int (Int32.ofNat i))])) (fun _ q => XS.icmpNo X.here hx rfl (hb hby own_d9_19) rfl (teq hc1).2 (XS.iload X.here hx rfl (hb hby own_d9_22) rfl (q))) ?_
      exact own_goI X hlk hx Bd.returns (hb hby own_d9_24) ⟨by rw [own_scanS, if_pos hc1], rfl, eT⟩ (by decide) (by decide)
    · -- not: (bs.getD i 0) = (ch.toInt8.toInt32)
      refine own_st (g' := (mkF m 7 #[.val (.ref a), .val (.int ch), .val (.int (Int32.ofNat i0)), .val (.int (Int32.ofNat m0)), .val (.int (ch.toInt8.toInt32)), .val (.int ((Int32.ofNat i) + (1 : Int32)))] [])) (fun _ q => XS.icmpYes X.here hx rfl (pc0 := 19) (pc' := 25) rfl (hb hby own_d9_19) rfl (feq hc1).2 (by decide) (by decide) (XS.iinc X.here hx rfl (hb hby own_d9_25) rfl (l' := #[.val (.ref a), .val (.int ch), .val (.int (Int32.ofNat i0)), .val (.int (Int32.ofNat m0)), .val (.int (ch.toInt8.toInt32)), .val (.int ((Int32.ofNat i) + (1 : Int32)))]) rfl (XS.goto X.here hx rfl (pc0 := 28) (pc' := 7) rfl (hb hby own_d9_28) (by decide) (by decide) (q)))) ?_
      rw [own_scanS, if_neg hc1, own_inc]
      exact ih (i + 1) T X eT (by omega)
theorem own_backN {x : Int32} (h : ¬ x < 0) : x = Int32.ofNat x.toNatClampNeg := (back32 h).1.symm
theorem own_max0 (x : Int32) : ¬ own_f_max x (0 : Int32) < 0 := by
  unfold own_f_max; split
  · decide
  · assumption
theorem own_min_self (x : Int32) : own_f_min x x = x := by unfold own_f_min; split <;> rfl
theorem own_shr0 (x : Int32) : x >>> ((0 : Int32) &&& 31) = x := by
  have e : ((0 : Int32) &&& 31) = 0 := by decide
  rw [e]; simp
theorem own_f_len_eq (n : Int32) : own_f_len n = n := by
  unfold own_f_len own_f_cdr; exact own_shr0 n
theorem own_le_of {x : Int32} {n : Nat} (hn : n < 2 ^ 31) (h : x < Int32.ofNat n) : x.toNatClampNeg ≤ n := by
  rw [Int32.lt_iff_toInt_lt, Int32.toInt_ofNat_small hn] at h
  simp only [Int32.toNatClampNeg]; omega
theorem own_ef7 (m : MethodId) (x0 : Addr) (x1 : Int32) (x2 : Int32) (x3 : Int32) : entryFrame m #[(.ref x0), (.int x1), (.int x2), (.int x3)] 4 = mkF m 0 #[.val (.ref x0), .val (.int x1), .val (.int x2), .val (.int x3)] [] := by first | rfl | (simp [entryFrame, mkF, argsToLocals, Value.category, maxLocals]; done)
theorem own_d10_0 : decode jdk_43_method_22_code 0 = .ok (.iload_n 1, 1) := by decide +kernel
theorem own_d10_1 : decode jdk_43_method_22_code 1 = .ok (.invokestatic 88, 3) := by decide +kernel
theorem own_pd2 : parseMethodDescriptor "(I)Z" = some ⟨[.int], some .boolean⟩ := by decide +kernel
theorem own_d10_4 : decode jdk_43_method_22_code 4 = .ok (.ifCond .ne 5, 3) := by decide +kernel
theorem own_d10_9 : decode jdk_43_method_22_code 9 = .ok (.iload_n 2, 1) := by decide +kernel
theorem own_d10_10 : decode jdk_43_method_22_code 10 = .ok (.iconst 0, 1) := by decide +kernel
theorem own_d10_11 : decode jdk_43_method_22_code 11 = .ok (.invokestatic 92, 3) := by decide +kernel
theorem own_pd3 : parseMethodDescriptor "(II)I" = some ⟨[.int, .int], some .int⟩ := by decide +kernel
theorem own_d10_14 : decode jdk_43_method_22_code 14 = .ok (.istore_n 2, 1) := by decide +kernel
theorem own_d10_15 : decode jdk_43_method_22_code 15 = .ok (.iload_n 3, 1) := by decide +kernel
theorem own_d10_16 : decode jdk_43_method_22_code 16 = .ok (.aload_n 0, 1) := by decide +kernel
theorem own_d10_17 : decode jdk_43_method_22_code 17 = .ok (.arraylength, 1) := by decide +kernel
theorem own_d10_18 : decode jdk_43_method_22_code 18 = .ok (.invokestatic 38, 3) := by decide +kernel
theorem own_d10_21 : decode jdk_43_method_22_code 21 = .ok (.istore_n 3, 1) := by decide +kernel
theorem own_d10_22 : decode jdk_43_method_22_code 22 = .ok (.iload_n 2, 1) := by decide +kernel
theorem own_d10_23 : decode jdk_43_method_22_code 23 = .ok (.iload_n 3, 1) := by decide +kernel
theorem own_d10_24 : decode jdk_43_method_22_code 24 = .ok (.if_icmp .lt 5, 3) := by decide +kernel
theorem own_d10_29 : decode jdk_43_method_22_code 29 = .ok (.aload_n 0, 1) := by decide +kernel
theorem own_d10_30 : decode jdk_43_method_22_code 30 = .ok (.iload_n 1, 1) := by decide +kernel
theorem own_d10_31 : decode jdk_43_method_22_code 31 = .ok (.iload_n 2, 1) := by decide +kernel
theorem own_d10_32 : decode jdk_43_method_22_code 32 = .ok (.iload_n 3, 1) := by decide +kernel
theorem own_d10_33 : decode jdk_43_method_22_code 33 = .ok (.invokestatic 95, 3) := by decide +kernel
theorem own_pd4 : parseMethodDescriptor "([BIII)I" = some ⟨[(.array .byte), .int, .int, .int], some .int⟩ := by decide +kernel
theorem own_d10_36 : decode jdk_43_method_22_code 36 = .ok (.ireturn, 1) := by decide +kernel
theorem own_d10_27 : decode jdk_43_method_22_code 27 = .ok (.iconst (-1), 1) := by decide +kernel
theorem own_d10_28 : decode jdk_43_method_22_code 28 = .ok (.ireturn, 1) := by decide +kernel
def own_f_lio (bs : List Int32) (n ch fr ln : Int32) : Int32 := (if (own_f_max fr (0 : Int32)) < (own_f_min ln n) then (own_scan (ch.toInt8.toInt32) bs (bs.length - (own_f_max fr (0 : Int32)).toNatClampNeg) (own_f_max fr (0 : Int32)).toNatClampNeg) else (-1 : Int32))
set_option maxRecDepth 65536 in
set_option maxHeartbeats 40000000 in
theorem own_rm_lio (l : Launch) (Z : State) (a0 : Array Value) (hw : ∀ d ∈ tables_1, d.before a0 Z = true) (ws : List Jvm.Cond) (t : Addr) (kb : ClassId) (bs : List Int32) (n ch fr ln : Int32) (r : Int32) (h0 : Heap) (K : Arv Z h0 t kb .byte n (bs.map Value.int) (.int (0 : Int32))) (hn : n = Int32.ofNat bs.length) (hbl : bs.length < 2 ^ 31) (hch : ¬ own_f_can ch = (0 : Int32)) (hln : ln = n) (hr : r = (own_f_lio bs n ch fr ln)) :
    MetFree l (⟨"java/lang/StringLatin1", "indexOf", "([BIII)I"⟩ : MethodName) (head1 (Jvm.Cond.code (⟨"java/lang/StringLatin1", "indexOf", "([BIII)I"⟩ : MethodName) jdk_43_method_22_code 4 (some .int) :: ws) ({ frames := 1, cells := 0, slots := 0, locals := 17 } : Room)) (fun aa U => aa = #[(.ref t), (.int ch), (.int fr), (.int ln)] ∧ Z.Warmed39 U.vm ∧ U.heap = h0) (fun _ _ _ _ _ => True) (fun _ U o U' => ∃ v L, o = .returned v ∧ (fun v h L => v = some (.int r) ∧ L = [] ∧ h = h0) v U'.heap L ∧ FrameEnd U o U' L ({ frames := 1, cells := 0, slots := 0, locals := 17 } : Room).cells ({ frames := 1, cells := 0, slots := 0, locals := 17 } : Room).slots) := by
  refine MetFree.of_bodySF (plainFor_of_name own_pn1) hisR ?_
  intro p e s m args below meth c s₁ Bd hml0 hP hK
  obtain ⟨rfl, hZ, hh⟩ := hP
  have hx := Bd.exec
  have hby := Bd.bytes
  have hml : c.maxLocals = 4 := hml0
  have hlk : meth.locks = false := BodyLoose.notSynchronized Bd
  have hown : s.vm.findClass "java/lang/StringLatin1" = some m.cls := findClass_of_methodNamed Bd.named
  have hnm := (name_of_methodNamed Bd.named Bd.method).1
  have X0 : Stand p l e ({ frames := 1, cells := 0, slots := 0, locals := 17 } : Room) s m #[(.ref t), (.int ch), (.int fr), (.int ln)] below meth c s₁ [] 0 0 := Stand.of_body Bd
  have e0 : s₁.heap = h0 := by rw [← hh, Bd.state]; rfl
  rw [own_ef7 m t ch fr ln]
  show own_Go p e below s ({ frames := 1, cells := 0, slots := 0, locals := 17 } : Room).cells ({ frames := 1, cells := 0, slots := 0, locals := 17 } : Room).slots (fun v h L => v = some (.int r) ∧ L = [] ∧ h = h0) s₁ (mkF m 0 #[.val (.ref t), .val (.int ch), .val (.int fr), .val (.int ln)] [])
  refine own_st (g' := (mkF m 1 #[.val (.ref t), .val (.int ch), .val (.int fr), .val (.int ln)] [(.int ch)])) (fun _ q => XS.iloadN X0.here hx rfl (hb hby own_d10_0) rfl (q)) ?_
  obtain ⟨r1, hr1⟩ : ∃ z : Int32, z = (own_f_can ch) := ⟨_, rfl⟩
  have K1 : own_Bk l ({ frames := 1, cells := 0, slots := 0, locals := 17 } : Room) p e below s #[(.ref t), (.int ch), (.int fr), (.int ln)] (⟨"java/lang/StringLatin1", "canEncode", "(I)Z"⟩ : MethodName) 0 h0 #[(.int ch)] 0 0 (fun v h L => v = some (.int r1) ∧ L = [] ∧ h = h0) := backOf (R := ({ frames := 1, cells := 0, slots := 0, locals := 17 } : Room)) (W := 0) (Q := (fun v h L => v = some (.int r1) ∧ L = [] ∧ h = h0)) (rm := ({ frames := 0, cells := 0, slots := 0, locals := 0 } : Room)) (own_rm_can l Z a0 hw [] ch r1 h0  (by rw [hr1])) hZ (hw _ (List.mem_of_getElem? (i := 64) rfl)) (hw _ (List.mem_of_getElem? (i := 60) rfl)) (by decide) (by decide)
  obtain ⟨T2, X2, e2, st2⟩ := own_pure (own_cS X0 hx hZ hown (hw _ (List.mem_of_getElem? (i := 62) rfl)) (hw _ (List.mem_of_getElem? (i := 63) rfl)) (hw _ (List.mem_of_getElem? (i := 60) rfl)) (hw _ (List.mem_of_getElem? (i := 64) rfl)) (by decide) e0 (h := h0) (argsL := [(.int ch)]) (rest := []) K1 (pc := 1) (Ls := #[.val (.ref t), .val (.int ch), .val (.int fr), .val (.int ln)]) (by rw [hml]; rfl) (lenOf own_pd2 rfl) rfl (Nat.le_of_eq rfl) (hb hby own_d10_1) (by decide) (by decide))
  refine own_st (g' := (mkF m 4 #[.val (.ref t), .val (.int ch), .val (.int fr), .val (.int ln)] [(.int r1)])) st2 ?_
  refine own_st (g' := (mkF m 11 #[.val (.ref t), .val (.int ch), .val (.int fr), .val (.int ln)] [(.int (0 : Int32)), (.int fr)])) (fun _ q => XS.ifYes X2.here hx rfl (pc0 := 4) (pc' := 9) rfl (hb hby own_d10_4) rfl ((if0 _ _).trans (feq (by rw [hr1]; exact hch)).2) (by decide) (by decide) (XS.iloadN X2.here hx rfl (hb hby own_d10_9) rfl (XS.iconst X2.here hx rfl (hb hby own_d10_10) (q)))) ?_
  obtain ⟨r3, hr3⟩ : ∃ z : Int32, z = (own_f_max fr (0 : Int32)) := ⟨_, rfl⟩
  have K3 : own_Bk l ({ frames := 1, cells := 0, slots := 0, locals := 17 } : Room) p e below s #[(.ref t), (.int ch), (.int fr), (.int ln)] (⟨"java/lang/Math", "max", "(II)I"⟩ : MethodName) 0 h0 #[(.int fr), (.int (0 : Int32))] 0 0 (fun v h L => v = some (.int r3) ∧ L = [] ∧ h = h0) := backOf (R := ({ frames := 1, cells := 0, slots := 0, locals := 17 } : Room)) (W := 0) (Q := (fun v h L => v = some (.int r3) ∧ L = [] ∧ h = h0)) (rm := ({ frames := 0, cells := 0, slots := 0, locals := 0 } : Room)) (own_rm_max l Z a0 hw [] fr (0 : Int32) r3 h0  (by rw [hr3])) hZ (hw _ (List.mem_of_getElem? (i := 68) rfl)) (hw _ (List.mem_of_getElem? (i := 67) rfl)) (by decide) (by decide)
  obtain ⟨T4, X4, e4, st4⟩ := own_pure (own_cS X2 hx hZ hown (hw _ (List.mem_of_getElem? (i := 65) rfl)) (hw _ (List.mem_of_getElem? (i := 66) rfl)) (hw _ (List.mem_of_getElem? (i := 67) rfl)) (hw _ (List.mem_of_getElem? (i := 68) rfl)) (by decide) e2 (h := h0) (argsL := [(.int fr), (.int (0 : Int32))]) (rest := []) K3 (pc := 11) (Ls := #[.val (.ref t), .val (.int ch), .val (.int fr), .val (.int ln)]) (by rw [hml]; rfl) (lenOf own_pd3 rfl) rfl (Nat.le_of_eq rfl) (hb hby own_d10_11) (by decide) (by decide))
  refine own_st (g' := (mkF m 14 #[.val (.ref t), .val (.int ch), .val (.int fr), .val (.int ln)] [(.int r3)])) st4 ?_
  refine own_st (g' := (mkF m 17 #[.val (.ref t), .val (.int ch), .val (.int r3), .val (.int ln)] [(.ref t), (.int ln)])) (fun _ q => XS.istoreN X4.here hx rfl (hb hby own_d10_14) rfl (l' := #[.val (.ref t), .val (.int ch), .val (.int r3), .val (.int ln)]) rfl (XS.iloadN X4.here hx rfl (hb hby own_d10_15) rfl (XS.aloadN X4.here hx rfl (hb hby own_d10_16) rfl rfl (q)))) ?_
  refine own_st (g' := (mkF m 18 #[.val (.ref t), .val (.int ch), .val (.int r3), .val (.int ln)] [(.int n), (.int ln)])) (own_alen X4 hx hZ e4 K (hb hby own_d10_17)) ?_
  obtain ⟨r5, hr5⟩ : ∃ z : Int32, z = (own_f_min ln n) := ⟨_, rfl⟩
  have K5 : own_Bk l ({ frames := 1, cells := 0, slots := 0, locals := 17 } : Room) p e below s #[(.ref t), (.int ch), (.int fr), (.int ln)] (⟨"java/lang/Math", "min", "(II)I"⟩ : MethodName) 0 h0 #[(.int ln), (.int n)] 0 0 (fun v h L => v = some (.int r5) ∧ L = [] ∧ h = h0) := backOf (R := ({ frames := 1, cells := 0, slots := 0, locals := 17 } : Room)) (W := 0) (Q := (fun v h L => v = some (.int r5) ∧ L = [] ∧ h = h0)) (rm := ({ frames := 0, cells := 0, slots := 0, locals := 0 } : Room)) (own_rm_min l Z a0 hw [] ln n r5 h0  (by rw [hr5])) hZ (hw _ (List.mem_of_getElem? (i := 71) rfl)) (hw _ (List.mem_of_getElem? (i := 67) rfl)) (by decide) (by decide)
  obtain ⟨T6, X6, e6, st6⟩ := own_pure (own_cS X4 hx hZ hown (hw _ (List.mem_of_getElem? (i := 69) rfl)) (hw _ (List.mem_of_getElem? (i := 70) rfl)) (hw _ (List.mem_of_getElem? (i := 67) rfl)) (hw _ (List.mem_of_getElem? (i := 71) rfl)) (by decide) e4 (h := h0) (argsL := [(.int ln), (.int n)]) (rest := []) K5 (pc := 18) (Ls := #[.val (.ref t), .val (.int ch), .val (.int r3), .val (.int ln)]) (by rw [hml]; rfl) (lenOf own_pd3 rfl) rfl (Nat.le_of_eq rfl) (hb hby own_d10_18) (by decide) (by decide))
  refine own_st (g' := (mkF m 21 #[.val (.ref t), .val (.int ch), .val (.int r3), .val (.int ln)] [(.int r5)])) st6 ?_
  refine own_st (g' := (mkF m 24 #[.val (.ref t), .val (.int ch), .val (.int r3), .val (.int r5)] [(.int r5), (.int r3)])) (fun _ q => XS.istoreN X6.here hx rfl (hb hby own_d10_21) rfl (l' := #[.val (.ref t), .val (.int ch), .val (.int r3), .val (.int r5)]) rfl (XS.iloadN X6.here hx rfl (hb hby own_d10_22) rfl (XS.iloadN X6.here hx rfl (hb hby own_d10_23) rfl (q)))) ?_
  by_cases hc7 : r3 < r5
  · -- r3 < r5
    refine own_st (g' := (mkF m 33 #[.val (.ref t), .val (.int ch), .val (.int r3), .val (.int r5)] [(.int r5), (.int r3), (.int ch), (.ref t)])) (fun _ q => XS.icmpYes X6.here hx rfl (pc0 := 24) (pc' := 29) rfl (hb hby own_d10_24) rfl (tlt hc7).1 (by decide) (by decide) (XS.aloadN X6.here hx rfl (hb hby own_d10_29) rfl rfl (XS.iloadN X6.here hx rfl (hb hby own_d10_30) rfl (XS.iloadN X6.here hx rfl (hb hby own_d10_31) rfl (XS.iloadN X6.here hx rfl (hb hby own_d10_32) rfl (q)))))) ?_
    have hlt : r3 < Int32.ofNat bs.length := by have q := hc7; rw [hr5, hln, own_min_self, hn] at q; exact q
    obtain ⟨r8, hr8⟩ : ∃ z : Int32, z = (own_scan (ch.toInt8.toInt32) bs (bs.length - r3.toNatClampNeg) r3.toNatClampNeg) := ⟨_, rfl⟩
    have K8 : own_Bk l ({ frames := 1, cells := 0, slots := 0, locals := 17 } : Room) p e below s #[(.ref t), (.int ch), (.int fr), (.int ln)] (⟨"java/lang/StringLatin1", "indexOfChar", "([BIII)I"⟩ : MethodName) 0 h0 #[(.ref t), (.int ch), (.int r3), (.int r5)] 0 0 (fun v h L => v = some (.int r8) ∧ L = [] ∧ h = h0) := backOf (R := ({ frames := 1, cells := 0, slots := 0, locals := 17 } : Room)) (W := 0) (Q := (fun v h L => v = some (.int r8) ∧ L = [] ∧ h = h0)) (rm := ({ frames := 0, cells := 0, slots := 0, locals := 0 } : Room)) (own_rm_ioc l Z a0 hw [] t kb bs n ch r3 r5 r3.toNatClampNeg bs.length r8 h0 K hn hbl (own_backN (by rw [hr3]; exact own_max0 fr)) (by rw [hr5, hln, own_min_self, hn]) (own_le_of hbl hlt) (Nat.le_refl _) (by rw [hr8])) hZ (hw _ (List.mem_of_getElem? (i := 74) rfl)) (hw _ (List.mem_of_getElem? (i := 60) rfl)) (by decide) (by decide)
    obtain ⟨T9, X9, e9, st9⟩ := own_pure (own_cS X6 hx hZ hown (hw _ (List.mem_of_getElem? (i := 72) rfl)) (hw _ (List.mem_of_getElem? (i := 73) rfl)) (hw _ (List.mem_of_getElem? (i := 60) rfl)) (hw _ (List.mem_of_getElem? (i := 74) rfl)) (by decide) e6 (h := h0) (argsL := [(.ref t), (.int ch), (.int r3), (.int r5)]) (rest := []) K8 (pc := 33) (Ls := #[.val (.ref t), .val (.int ch), .val (.int r3), .val (.int r5)]) (by rw [hml]; rfl) (lenOf own_pd4 rfl) rfl (Nat.le_of_eq rfl) (hb hby own_d10_33) (by decide) (by decide))
    refine own_st (g' := (mkF m 36 #[.val (.ref t), .val (.int ch), .val (.int r3), .val (.int r5)] [(.int r8)])) st9 ?_
    exact own_goI X9 hlk hx Bd.returns (hb hby own_d10_36) ⟨by subst hr hr1 hr3 hr5 hr8; rw [own_f_lio, if_pos hc7] <;> rfl, rfl, e9⟩ (by decide) (by decide)
  · -- not: r3 < r5
    refine own_st (g' := (mkF m 28 #[.val (.ref t), .val (.int ch), .val (.int r3), .val (.int r5)] [(.int (-1 : Int32))])) (fun _ q => XS.icmpNo X6.here hx rfl (hb hby own_d10_24) rfl (flt hc7).1 (XS.iconst X6.here hx rfl (hb hby own_d10_27) (q))) ?_
    exact own_goI X6 hlk hx Bd.returns (hb hby own_d10_28) ⟨by subst hr hr1 hr3 hr5; rw [own_f_lio, if_neg hc7] <;> rfl, rfl, e6⟩ (by decide) (by decide)
theorem own_isL1 : ¬ own_f_isL = (0 : Int32) := by decide
theorem own_d11_0 : decode jdk_42_method_80_code 0 = .ok (.aload_n 0, 1) := by decide +kernel
theorem own_d11_1 : decode jdk_42_method_80_code 1 = .ok (.invokevirtual 492, 3) := by decide +kernel
theorem own_pd5 : parseMethodDescriptor "()Z" = some ⟨[], some .boolean⟩ := by decide +kernel
theorem own_d11_4 : decode jdk_42_method_80_code 4 = .ok (.ifCond .eq 19, 3) := by decide +kernel
theorem own_d11_7 : decode jdk_42_method_80_code 7 = .ok (.aload_n 0, 1) := by decide +kernel
theorem own_d11_8 : decode jdk_42_method_80_code 8 = .ok (.getfield 9, 3) := by decide +kernel
theorem own_d11_11 : decode jdk_42_method_80_code 11 = .ok (.iload_n 1, 1) := by decide +kernel
theorem own_d11_12 : decode jdk_42_method_80_code 12 = .ok (.iload_n 2, 1) := by decide +kernel
theorem own_d11_13 : decode jdk_42_method_80_code 13 = .ok (.aload_n 0, 1) := by decide +kernel
theorem own_d11_14 : decode jdk_42_method_80_code 14 = .ok (.invokevirtual 505, 3) := by decide +kernel
theorem own_pd6 : parseMethodDescriptor "()I" = some ⟨[], some .int⟩ := by decide +kernel
theorem own_d11_17 : decode jdk_42_method_80_code 17 = .ok (.invokestatic 637, 3) := by decide +kernel
theorem own_d11_20 : decode jdk_42_method_80_code 20 = .ok (.goto 16, 3) := by decide +kernel
theorem own_d11_36 : decode jdk_42_method_80_code 36 = .ok (.ireturn, 1) := by decide +kernel
def own_f_sio (bs : List Int32) (n ch fr : Int32) : Int32 := (own_f_lio bs n ch fr (own_f_len n))
set_option maxRecDepth 65536 in
set_option maxHeartbeats 40000000 in
theorem own_rm_sio (l : Launch) (Z : State) (a0 : Array Value) (hw : ∀ d ∈ tables_1, d.before a0 Z = true) (ws : List Jvm.Cond) (x t : Addr) (kb : ClassId) (bs : List Int32) (n z ch fr : Int32) (r : Int32) (h0 : Heap) (S : Sta Z h0 "java/lang/String" "COMPACT_STRINGS" "Z" (.int z)) (hz : ¬ z = (0 : Int32)) (C : Fld Z h0 x "java/lang/String" "coder" "B" (.int (0 : Int32))) (E : Exa Z h0 x "java/lang/String") (F : Fld Z h0 x "java/lang/String" "value" "[B" (.ref t)) (K : Arv Z h0 t kb .byte n (bs.map Value.int) (.int (0 : Int32))) (hn : n = Int32.ofNat bs.length) (hbl : bs.length < 2 ^ 31) (hch : ¬ own_f_can ch = (0 : Int32)) (hr : r = (own_f_sio bs n ch fr)) :
    MetFree l (⟨"java/lang/String", "indexOf", "(II)I"⟩ : MethodName) (head1 (Jvm.Cond.code (⟨"java/lang/String", "indexOf", "(II)I"⟩ : MethodName) jdk_42_method_80_code 3 (some .int) :: ws) ({ frames := 2, cells := 0, slots := 0, locals := 32 } : Room)) (fun aa U => aa = #[(.ref x), (.int ch), (.int fr)] ∧ Z.Warmed39 U.vm ∧ U.heap = h0) (fun _ _ _ _ _ => True) (fun _ U o U' => ∃ v L, o = .returned v ∧ (fun v h L => v = some (.int r) ∧ L = [] ∧ h = h0) v U'.heap L ∧ FrameEnd U o U' L ({ frames := 2, cells := 0, slots := 0, locals := 32 } : Room).cells ({ frames := 2, cells := 0, slots := 0, locals := 32 } : Room).slots) := by
  refine MetFree.of_bodySF (plainFor_of_name own_pn2) hisR ?_
  intro p e s m args below meth c s₁ Bd hml0 hP hK
  obtain ⟨rfl, hZ, hh⟩ := hP
  have hx := Bd.exec
  have hby := Bd.bytes
  have hml : c.maxLocals = 3 := hml0
  have hlk : meth.locks = false := BodyLoose.notSynchronized Bd
  have hown : s.vm.findClass "java/lang/String" = some m.cls := findClass_of_methodNamed Bd.named
  have hnm := (name_of_methodNamed Bd.named Bd.method).1
  have X0 : Stand p l e ({ frames := 2, cells := 0, slots := 0, locals := 32 } : Room) s m #[(.ref x), (.int ch), (.int fr)] below meth c s₁ [] 0 0 := Stand.of_body Bd
  have e0 : s₁.heap = h0 := by rw [← hh, Bd.state]; rfl
  rw [own_ef1 m x ch fr]
  show own_Go p e below s ({ frames := 2, cells := 0, slots := 0, locals := 32 } : Room).cells ({ frames := 2, cells := 0, slots := 0, locals := 32 } : Room).slots (fun v h L => v = some (.int r) ∧ L = [] ∧ h = h0) s₁ (mkF m 0 #[.val (.ref x), .val (.int ch), .val (.int fr)] [])
  refine own_st (g' := (mkF m 1 #[.val (.ref x), .val (.int ch), .val (.int fr)] [(.ref x)])) (fun _ q => XS.aloadN X0.here hx rfl (hb hby own_d11_0) rfl rfl (q)) ?_
  obtain ⟨r1, hr1⟩ : ∃ z : Int32, z = own_f_isL := ⟨_, rfl⟩
  have K1 : own_Bk l ({ frames := 2, cells := 0, slots := 0, locals := 32 } : Room) p e below s #[(.ref x), (.int ch), (.int fr)] (⟨"java/lang/String", "isLatin1", "()Z"⟩ : MethodName) 0 h0 #[(.ref x)] 0 0 (fun v h L => v = some (.int r1) ∧ L = [] ∧ h = h0) := backOf (R := ({ frames := 2, cells := 0, slots := 0, locals := 32 } : Room)) (W := 0) (Q := (fun v h L => v = some (.int r1) ∧ L = [] ∧ h = h0)) (rm := ({ frames := 0, cells := 0, slots := 0, locals := 0 } : Room)) (own_rm_isL l Z a0 hw [] x z r1 h0 S hz C (by rw [hr1])) hZ (hw _ (List.mem_of_getElem? (i := 47) rfl)) (hw _ (List.mem_of_getElem? (i := 7) rfl)) (by decide) (by decide)
  obtain ⟨T2, X2, e2, st2⟩ := own_pure (own_cV X0 hx hZ hown (hw _ (List.mem_of_getElem? (i := 43) rfl)) (hw _ (List.mem_of_getElem? (i := 44) rfl)) (notFace_of_selects (args := #[]) (mvT hZ (hw _ (List.mem_of_getElem? (i := 46) rfl)))) (hw _ (List.mem_of_getElem? (i := 46) rfl)) (hw _ (List.mem_of_getElem? (i := 45) rfl)) (by decide) e0 (h := h0) (b := x) E (argsL := []) (rest := []) K1 (pc := 1) (Ls := #[.val (.ref x), .val (.int ch), .val (.int fr)]) (by rw [hml]; rfl) (lenOf own_pd5 rfl) rfl (Nat.le_of_eq rfl) (hb hby own_d11_1) (by decide) (by decide))
  refine own_st (g' := (mkF m 4 #[.val (.ref x), .val (.int ch), .val (.int fr)] [(.int r1)])) st2 ?_
  refine own_st (g' := (mkF m 8 #[.val (.ref x), .val (.int ch), .val (.int fr)] [(.ref x)])) (fun _ q => XS.ifNo X2.here hx rfl (hb hby own_d11_4) rfl ((if0 _ _).trans (feq (by rw [hr1]; exact own_isL1)).1) (XS.aloadN X2.here hx rfl (hb hby own_d11_7) rfl rfl (q))) ?_
  obtain ⟨T3, X3, e3, st3⟩ := getF X2 hx hZ hown (host := "") (Or.inl (hw _ (List.mem_of_getElem? (i := 32) rfl))) Via.refl e2 F (g := (mkF m 8 #[.val (.ref x), .val (.int ch), .val (.int fr)] [(.ref x)])) rfl rfl (hb hby own_d11_8)
  refine own_st (g' := (mkF m 11 #[.val (.ref x), .val (.int ch), .val (.int fr)] [(.ref t)])) st3 ?_
  refine own_st (g' := (mkF m 14 #[.val (.ref x), .val (.int ch), .val (.int fr)] [(.ref x), (.int fr), (.int ch), (.ref t)])) (fun _ q => XS.iloadN X3.here hx rfl (hb hby own_d11_11) rfl (XS.iloadN X3.here hx rfl (hb hby own_d11_12) rfl (XS.aloadN X3.here hx rfl (hb hby own_d11_13) rfl rfl (q)))) ?_
  obtain ⟨r4, hr4⟩ : ∃ z : Int32, z = (own_f_len n) := ⟨_, rfl⟩
  have K4 : own_Bk l ({ frames := 2, cells := 0, slots := 0, locals := 32 } : Room) p e below s #[(.ref x), (.int ch), (.int fr)] (⟨"java/lang/String", "length", "()I"⟩ : MethodName) 3 h0 #[(.ref x)] 0 0 (fun v h L => v = some (.int r4) ∧ L = [] ∧ h = h0) := backOf (R := ({ frames := 2, cells := 0, slots := 0, locals := 32 } : Room)) (W := 3) (Q := (fun v h L => v = some (.int r4) ∧ L = [] ∧ h = h0)) (rm := ({ frames := 1, cells := 0, slots := 0, locals := 13 } : Room)) (own_rm_len l Z a0 hw [] x t kb bs n z r4 h0 S hz C E F K (by rw [hr4])) hZ (hw _ (List.mem_of_getElem? (i := 52) rfl)) (hw _ (List.mem_of_getElem? (i := 7) rfl)) (by decide) (by decide)
  obtain ⟨T5, X5, e5, st5⟩ := own_pure (own_cV X3 hx hZ hown (hw _ (List.mem_of_getElem? (i := 48) rfl)) (hw _ (List.mem_of_getElem? (i := 49) rfl)) (notFace_of_selects (args := #[]) (mvT hZ (hw _ (List.mem_of_getElem? (i := 51) rfl)))) (hw _ (List.mem_of_getElem? (i := 51) rfl)) (hw _ (List.mem_of_getElem? (i := 50) rfl)) (by decide) e3 (h := h0) (b := x) E (argsL := []) (rest := [(.int fr), (.int ch), (.ref t)]) K4 (pc := 14) (Ls := #[.val (.ref x), .val (.int ch), .val (.int fr)]) (by rw [hml]; rfl) (lenOf own_pd6 rfl) rfl (Nat.le_of_eq rfl) (hb hby own_d11_14) (by decide) (by decide))
  refine own_st (g' := (mkF m 17 #[.val (.ref x), .val (.int ch), .val (.int fr)] [(.int r4), (.int fr), (.int ch), (.ref t)])) st5 ?_
  obtain ⟨r6, hr6⟩ : ∃ z : Int32, z = (own_f_lio bs n ch fr r4) := ⟨_, rfl⟩
  have K6 : own_Bk l ({ frames := 2, cells := 0, slots := 0, locals := 32 } : Room) p e below s #[(.ref x), (.int ch), (.int fr)] (⟨"java/lang/StringLatin1", "indexOf", "([BIII)I"⟩ : MethodName) 0 h0 #[(.ref t), (.int ch), (.int fr), (.int r4)] 0 0 (fun v h L => v = some (.int r6) ∧ L = [] ∧ h = h0) := backOf (R := ({ frames := 2, cells := 0, slots := 0, locals := 32 } : Room)) (W := 0) (Q := (fun v h L => v = some (.int r6) ∧ L = [] ∧ h = h0)) (rm := ({ frames := 1, cells := 0, slots := 0, locals := 17 } : Room)) (own_rm_lio l Z a0 hw [] t kb bs n ch fr r4 r6 h0 K hn hbl hch (by rw [hr4]; exact own_f_len_eq n) (by rw [hr6])) hZ (hw _ (List.mem_of_getElem? (i := 61) rfl)) (hw _ (List.mem_of_getElem? (i := 60) rfl)) (by decide) (by decide)
  obtain ⟨T7, X7, e7, st7⟩ := own_pure (own_cS X5 hx hZ hown (hw _ (List.mem_of_getElem? (i := 58) rfl)) (hw _ (List.mem_of_getElem? (i := 59) rfl)) (hw _ (List.mem_of_getElem? (i := 60) rfl)) (hw _ (List.mem_of_getElem? (i := 61) rfl)) (by decide) e5 (h := h0) (argsL := [(.ref t), (.int ch), (.int fr), (.int r4)]) (rest := []) K6 (pc := 17) (Ls := #[.val (.ref x), .val (.int ch), .val (.int fr)]) (by rw [hml]; rfl) (lenOf own_pd4 rfl) rfl (Nat.le_of_eq rfl) (hb hby own_d11_17) (by decide) (by decide))
  refine own_st (g' := (mkF m 20 #[.val (.ref x), .val (.int ch), .val (.int fr)] [(.int r6)])) st7 ?_
  refine own_st (g' := (mkF m 36 #[.val (.ref x), .val (.int ch), .val (.int fr)] [(.int r6)])) (fun _ q => XS.goto X7.here hx rfl (pc0 := 20) (pc' := 36) rfl (hb hby own_d11_20) (by decide) (by decide) (q)) ?_
  exact own_goI X7 hlk hx Bd.returns (hb hby own_d11_36) ⟨by subst hr hr1 hr4 hr6; rfl, rfl, e7⟩ (by decide) (by decide)
theorem own_ef8 (m : MethodId) (x0 : Addr) (x1 : Int32) : entryFrame m #[(.ref x0), (.int x1)] 4 = mkF m 0 #[.val (.ref x0), .val (.int x1), .unset, .unset] [] := by first | rfl | (simp [entryFrame, mkF, argsToLocals, Value.category, maxLocals]; done)
theorem own_pn3 : plainName "com/example/encon/encon/UrlSyntax" = true := by first | (simp [plainName, overriddenIn]; done) | decide +kernel
theorem own_d12_0 : decode prog_108_method_3_code 0 = .ok (.aload_n 0, 1) := by decide +kernel
theorem own_d12_1 : decode prog_108_method_3_code 1 = .ok (.bipush 64, 2) := by decide +kernel
theorem own_d12_3 : decode prog_108_method_3_code 3 = .ok (.iload_n 1, 1) := by decide +kernel
theorem own_d12_4 : decode prog_108_method_3_code 4 = .ok (.invokevirtual 42, 3) := by decide +kernel
theorem own_d12_7 : decode prog_108_method_3_code 7 = .ok (.istore_n 2, 1) := by decide +kernel
theorem own_d12_8 : decode prog_108_method_3_code 8 = .ok (.aload_n 0, 1) := by decide +kernel
theorem own_d12_9 : decode prog_108_method_3_code 9 = .ok (.bipush 47, 2) := by decide +kernel
theorem own_d12_11 : decode prog_108_method_3_code 11 = .ok (.iload_n 1, 1) := by decide +kernel
theorem own_d12_12 : decode prog_108_method_3_code 12 = .ok (.invokevirtual 42, 3) := by decide +kernel
theorem own_d12_15 : decode prog_108_method_3_code 15 = .ok (.istore_n 3, 1) := by decide +kernel
theorem own_d12_16 : decode prog_108_method_3_code 16 = .ok (.iload_n 2, 1) := by decide +kernel
theorem own_d12_17 : decode prog_108_method_3_code 17 = .ok (.ifCond .lt 16, 3) := by decide +kernel
theorem own_d12_33 : decode prog_108_method_3_code 33 = .ok (.iconst 0, 1) := by decide +kernel
theorem own_d12_34 : decode prog_108_method_3_code 34 = .ok (.ireturn, 1) := by decide +kernel
theorem own_d12_20 : decode prog_108_method_3_code 20 = .ok (.iload_n 3, 1) := by decide +kernel
theorem own_d12_21 : decode prog_108_method_3_code 21 = .ok (.ifCond .lt 8, 3) := by decide +kernel
theorem own_d12_29 : decode prog_108_method_3_code 29 = .ok (.iconst 1, 1) := by decide +kernel
theorem own_d12_30 : decode prog_108_method_3_code 30 = .ok (.goto 4, 3) := by decide +kernel
theorem own_d12_24 : decode prog_108_method_3_code 24 = .ok (.iload_n 2, 1) := by decide +kernel
theorem own_d12_25 : decode prog_108_method_3_code 25 = .ok (.iload_n 3, 1) := by decide +kernel
theorem own_d12_26 : decode prog_108_method_3_code 26 = .ok (.if_icmp .ge 7, 3) := by decide +kernel
def own_f_user (bs : List Int32) (n fr : Int32) : Int32 := (if (own_f_sio bs n (64 : Int32) fr) < (0 : Int32) then (0 : Int32) else (if (own_f_sio bs n (47 : Int32) fr) < (0 : Int32) then (1 : Int32) else (if (own_f_sio bs n (64 : Int32) fr) < (own_f_sio bs n (47 : Int32) fr) then (1 : Int32) else (0 : Int32))))
set_option maxRecDepth 65536 in
set_option maxHeartbeats 40000000 in
theorem own_rm_user (l : Launch) (Z : State) (a0 : Array Value) (hw : ∀ d ∈ tables_1, d.before a0 Z = true) (ws : List Jvm.Cond) (x t : Addr) (kb : ClassId) (bs : List Int32) (n z fr : Int32) (r : Int32) (h0 : Heap) (S : Sta Z h0 "java/lang/String" "COMPACT_STRINGS" "Z" (.int z)) (hz : ¬ z = (0 : Int32)) (C : Fld Z h0 x "java/lang/String" "coder" "B" (.int (0 : Int32))) (E : Exa Z h0 x "java/lang/String") (F : Fld Z h0 x "java/lang/String" "value" "[B" (.ref t)) (K : Arv Z h0 t kb .byte n (bs.map Value.int) (.int (0 : Int32))) (hn : n = Int32.ofNat bs.length) (hbl : bs.length < 2 ^ 31) (hr : r = (own_f_user bs n fr)) :
    MetFree l (⟨"com/example/encon/encon/UrlSyntax", "userInfoMayEndAfter", "(Ljava/lang/String;I)Z"⟩ : MethodName) (head1 (Jvm.Cond.code (⟨"com/example/encon/encon/UrlSyntax", "userInfoMayEndAfter", "(Ljava/lang/String;I)Z"⟩ : MethodName) prog_108_method_3_code 4 (some .boolean) :: ws) ({ frames := 3, cells := 0, slots := 0, locals := 46 } : Room)) (fun aa U => aa = #[(.ref x), (.int fr)] ∧ Z.Warmed39 U.vm ∧ U.heap = h0) (fun _ _ _ _ _ => True) (fun _ U o U' => ∃ v L, o = .returned v ∧ (fun v h L => v = some (.int r) ∧ L = [] ∧ h = h0) v U'.heap L ∧ FrameEnd U o U' L ({ frames := 3, cells := 0, slots := 0, locals := 46 } : Room).cells ({ frames := 3, cells := 0, slots := 0, locals := 46 } : Room).slots) := by
  refine MetFree.of_bodySF (plainFor_of_name own_pn3) hisR ?_
  intro p e s m args below meth c s₁ Bd hml0 hP hK
  obtain ⟨rfl, hZ, hh⟩ := hP
  have hx := Bd.exec
  have hby := Bd.bytes
  have hml : c.maxLocals = 4 := hml0
  have hlk : meth.locks = false := BodyLoose.notSynchronized Bd
  have hown : s.vm.findClass "com/example/encon/encon/UrlSyntax" = some m.cls := findClass_of_methodNamed Bd.named
  have hnm := (name_of_methodNamed Bd.named Bd.method).1
  have X0 : Stand p l e ({ frames := 3, cells := 0, slots := 0, locals := 46 } : Room) s m #[(.ref x), (.int fr)] below meth c s₁ [] 0 0 := Stand.of_body Bd
  have e0 : s₁.heap = h0 := by rw [← hh, Bd.state]; rfl
  rw [own_ef8 m x fr]
  show own_Go p e below s ({ frames := 3, cells := 0, slots := 0, locals := 46 } : Room).cells ({ frames := 3, cells := 0, slots := 0, locals := 46 } : Room).slots (fun v h L => v = some (.int r) ∧ L = [] ∧ h = h0) s₁ (mkF m 0 #[.val (.ref x), .val (.int fr), .unset, .unset] [])
  refine own_st (g' := (mkF m 4 #[.val (.ref x), .val (.int fr), .unset, .unset] [(.int fr), (.int (64 : Int32)), (.ref x)])) (fun _ q => XS.aloadN X0.here hx rfl (hb hby own_d12_0) rfl rfl (XS.bipush X0.here hx rfl (hb hby own_d12_1) (XS.iloadN X0.here hx rfl (hb hby own_d12_3) rfl (q)))) ?_
  obtain ⟨r1, hr1⟩ : ∃ z : Int32, z = (own_f_sio bs n (64 : Int32) fr) := ⟨_, rfl⟩
  have K1 : own_Bk l ({ frames := 3, cells := 0, slots := 0, locals := 46 } : Room) p e below s #[(.ref x), (.int fr)] (⟨"java/lang/String", "indexOf", "(II)I"⟩ : MethodName) 0 h0 #[(.ref x), (.int (64 : Int32)), (.int fr)] 0 0 (fun v h L => v = some (.int r1) ∧ L = [] ∧ h = h0) := backOf (R := ({ frames := 3, cells := 0, slots := 0, locals := 46 } : Room)) (W := 0) (Q := (fun v h L => v = some (.int r1) ∧ L = [] ∧ h = h0)) (rm := ({ frames := 2, cells := 0, slots := 0, locals := 32 } : Room)) (own_rm_sio l Z a0 hw [] x t kb bs n z (64 : Int32) fr r1 h0 S hz C E F K hn hbl (by decide) (by rw [hr1])) hZ (hw _ (List.mem_of_getElem? (i := 42) rfl)) (hw _ (List.mem_of_getElem? (i := 7) rfl)) (by decide) (by decide)
  obtain ⟨T2, X2, e2, st2⟩ := own_pure (own_cV X0 hx hZ hown (hw _ (List.mem_of_getElem? (i := 38) rfl)) (hw _ (List.mem_of_getElem? (i := 39) rfl)) (notFace_of_selects (args := #[]) (mvT hZ (hw _ (List.mem_of_getElem? (i := 41) rfl)))) (hw _ (List.mem_of_getElem? (i := 41) rfl)) (hw _ (List.mem_of_getElem? (i := 40) rfl)) (by decide) e0 (h := h0) (b := x) E (argsL := [(.int (64 : Int32)), (.int fr)]) (rest := []) K1 (pc := 4) (Ls := #[.val (.ref x), .val (.int fr), .unset, .unset]) (by rw [hml]; rfl) (lenOf own_pd3 rfl) rfl (Nat.le_of_eq rfl) (hb hby own_d12_4) (by decide) (by decide))
  refine own_st (g' := (mkF m 7 #[.val (.ref x), .val (.int fr), .unset, .unset] [(.int r1)])) st2 ?_
  refine own_st (g' := (mkF m 12 #[.val (.ref x), .val (.int fr), .val (.int r1), .unset] [(.int fr), (.int (47 : Int32)), (.ref x)])) (fun _ q => XS.istoreN X2.here hx rfl (hb hby own_d12_7) rfl (l' := #[.val (.ref x), .val (.int fr), .val (.int r1), .unset]) rfl (XS.aloadN X2.here hx rfl (hb hby own_d12_8) rfl rfl (XS.bipush X2.here hx rfl (hb hby own_d12_9) (XS.iloadN X2.here hx rfl (hb hby own_d12_11) rfl (q))))) ?_
  obtain ⟨r3, hr3⟩ : ∃ z : Int32, z = (own_f_sio bs n (47 : Int32) fr) := ⟨_, rfl⟩
  have K3 : own_Bk l ({ frames := 3, cells := 0, slots := 0, locals := 46 } : Room) p e below s #[(.ref x), (.int fr)] (⟨"java/lang/String", "indexOf", "(II)I"⟩ : MethodName) 0 h0 #[(.ref x), (.int (47 : Int32)), (.int fr)] 0 0 (fun v h L => v = some (.int r3) ∧ L = [] ∧ h = h0) := backOf (R := ({ frames := 3, cells := 0, slots := 0, locals := 46 } : Room)) (W := 0) (Q := (fun v h L => v = some (.int r3) ∧ L = [] ∧ h = h0)) (rm := ({ frames := 2, cells := 0, slots := 0, locals := 32 } : Room)) (own_rm_sio l Z a0 hw [] x t kb bs n z (47 : Int32) fr r3 h0 S hz C E F K hn hbl (by decide) (by rw [hr3])) hZ (hw _ (List.mem_of_getElem? (i := 42) rfl)) (hw _ (List.mem_of_getElem? (i := 7) rfl)) (by decide) (by decide)
  obtain ⟨T4, X4, e4, st4⟩ := own_pure (own_cV X2 hx hZ hown (hw _ (List.mem_of_getElem? (i := 38) rfl)) (hw _ (List.mem_of_getElem? (i := 39) rfl)) (notFace_of_selects (args := #[]) (mvT hZ (hw _ (List.mem_of_getElem? (i := 41) rfl)))) (hw _ (List.mem_of_getElem? (i := 41) rfl)) (hw _ (List.mem_of_getElem? (i := 40) rfl)) (by decide) e2 (h := h0) (b := x) E (argsL := [(.int (47 : Int32)), (.int fr)]) (rest := []) K3 (pc := 12) (Ls := #[.val (.ref x), .val (.int fr), .val (.int r1), .unset]) (by rw [hml]; rfl) (lenOf own_pd3 rfl) rfl (Nat.le_of_eq rfl) (hb hby own_d12_12) (by decide) (by decide))
  refine own_st (g' := (mkF m 15 #[.val (.ref x), .val (.int fr), .val (.int r1), .unset] [(.int r3)])) st4 ?_
  refine own_st (g' := (mkF m 17 #[.val (.ref x), .val (.int fr), .val (.int r1), .val (.int r3)] [(.int r1)])) (fun _ q => XS.istoreN X4.here hx rfl (hb hby own_d12_15) rfl (l' := #[.val (.ref x), .val (.int fr), .val (.int r1), .val (.int r3)]) rfl (XS.iloadN X4.here hx rfl (hb hby own_d12_16) rfl (q))) ?_
  by_cases hc5 : r1 < (0 : Int32)
  · -- r1 < (0 : Int32)
    refine own_st (g' := (mkF m 34 #[.val (.ref x), .val (.int fr), .val (.int r1), .val (.int r3)] [(.int (0 : Int32))])) (fun _ q => XS.ifYes X4.here hx rfl (pc0 := 17) (pc' := 33) rfl (hb hby own_d12_17) rfl ((if0 _ _).trans (tlt hc5).1) (by decide) (by decide) (XS.iconst X4.here hx rfl (hb hby own_d12_33) (q))) ?_
    exact own_goN X4 hlk hx (t := .boolean) (by simp) Bd.returns (hb hby own_d12_34) ⟨by subst hr hr1 hr3; rw [own_f_user, if_pos hc5] <;> rfl, rfl, e4⟩ (by decide) (by decide)
  · -- not: r1 < (0 : Int32)
    refine own_st (g' := (mkF m 21 #[.val (.ref x), .val (.int fr), .val (.int r1), .val (.int r3)] [(.int r3)])) (fun _ q => XS.ifNo X4.here hx rfl (hb hby own_d12_17) rfl ((if0 _ _).trans (flt hc5).1) (XS.iloadN X4.here hx rfl (hb hby own_d12_20) rfl (q))) ?_
    by_cases hc6 : r3 < (0 : Int32)
    · -- r3 < (0 : Int32)
      refine own_st (g' := (mkF m 34 #[.val (.ref x), .val (.int fr), .val (.int r1), .val (.int r3)] [(.int (1 : Int32))])) (fun _ q => XS.ifYes X4.here hx rfl (pc0 := 21) (pc' := 29) rfl (hb hby own_d12_21) rfl ((if0 _ _).trans (tlt hc6).1) (by decide) (by decide) (XS.iconst X4.here hx rfl (hb hby own_d12_29) (XS.goto X4.here hx rfl (pc0 := 30) (pc' := 34) rfl (hb hby own_d12_30) (by decide) (by decide) (q)))) ?_
      exact own_goN X4 hlk hx (t := .boolean) (by simp) Bd.returns (hb hby own_d12_34) ⟨by subst hr hr1 hr3; rw [own_f_user, if_neg hc5, if_pos hc6] <;> rfl, rfl, e4⟩ (by decide) (by decide)
    · -- not: r3 < (0 : Int32)
      refine own_st (g' := (mkF m 26 #[.val (.ref x), .val (.int fr), .val (.int r1), .val (.int r3)] [(.int r3), (.int r1)])) (fun _ q => XS.ifNo X4.here hx rfl (hb hby own_d12_21) rfl ((if0 _ _).trans (flt hc6).1) (XS.iloadN X4.here hx rfl (hb hby own_d12_24) rfl (XS.iloadN X4.here hx rfl (hb hby own_d12_25) rfl (q)))) ?_
      by_cases hc7 : r1 < r3
      · -- r1 < r3
        refine own_st (g' := (mkF m 34 #[.val (.ref x), .val (.int fr), .val (.int r1), .val (.int r3)] [(.int (1 : Int32))])) (fun _ q => XS.icmpNo X4.here hx rfl (hb hby own_d12_26) rfl (tlt hc7).2.1 (XS.iconst X4.here hx rfl (hb hby own_d12_29) (XS.goto X4.here hx rfl (pc0 := 30) (pc' := 34) rfl (hb hby own_d12_30) (by decide) (by decide) (q)))) ?_
        exact own_goN X4 hlk hx (t := .boolean) (by simp) Bd.returns (hb hby own_d12_34) ⟨by subst hr hr1 hr3; rw [own_f_user, if_neg hc5, if_neg hc6, if_pos hc7] <;> rfl, rfl, e4⟩ (by decide) (by decide)
      · -- not: r1 < r3
        refine own_st (g' := (mkF m 34 #[.val (.ref x), .val (.int fr), .val (.int r1), .val (.int r3)] [(.int (0 : Int32))])) (fun _ q => XS.icmpYes X4.here hx rfl (pc0 := 26) (pc' := 33) rfl (hb hby own_d12_26) rfl (flt hc7).2.1 (by decide) (by decide) (XS.iconst X4.here hx rfl (hb hby own_d12_33) (q))) ?_
        exact own_goN X4 hlk hx (t := .boolean) (by simp) Bd.returns (hb hby own_d12_34) ⟨by subst hr hr1 hr3; rw [own_f_user, if_neg hc5, if_neg hc6, if_neg hc7] <;> rfl, rfl, e4⟩ (by decide) (by decide)
theorem own_byte {c : Int32} (h : ¬ c < 0 ∧ ¬ (255 : Int32) < c) (b : Int32) (hb : ¬ b < 0 ∧ b < 128) : (c.toInt8.toInt32 = (b.toInt8.toInt32)) ↔ c = b := by
  obtain ⟨h1, h2⟩ := h
  obtain ⟨k1, k2⟩ := hb
  have q := StrChars.lo8_inj (x := c) (y := b) h1 h2 k1 (by rw [Int32.lt_iff_toInt_lt] at *; have e1 : (255 : Int32).toInt = 255 := rfl; have e2 : (128 : Int32).toInt = 128 := rfl; omega)
  exact ⟨q, fun e => by rw [e]⟩
theorem own_nar_idem (x : Int32) : nar .char (nar .char x) = nar .char x := by simp only [nar, UInt32.toUInt32_toInt32, UInt16.toUInt16_toUInt32]
theorem own_and255 (x : Int32) : ¬ nar .char (x &&& (255 : Int32)) < 0 ∧ ¬ (255 : Int32) < nar .char (x &&& (255 : Int32)) := by
  have t : ∀ k : Fin 256, ¬ nar .char (Int32.ofNat k.val) < 0 ∧ ¬ (255 : Int32) < nar .char (Int32.ofNat k.val) := by decide +kernel
  have h : (x &&& 255).toBitVec.toNat < 256 := by
    simp only [Int32.toBitVec_and, BitVec.toNat_and]
    exact Nat.lt_succ_of_le Nat.and_le_right
  have e : (x &&& 255) = Int32.ofNat (x &&& 255).toBitVec.toNat := by
    apply Int32.toBitVec_inj.mp
    show _ = BitVec.ofNat 32 _
    rw [BitVec.ofNat_toNat]; simp
  rw [e]
  exact t ⟨_, h⟩
theorem own_draw_rng (q : Int32) : ¬ nar .char (own_f_draw q) < 0 ∧ ¬ (255 : Int32) < nar .char (own_f_draw q) := by
  unfold own_f_draw
  split
  · decide
  · split
    · decide
    · rw [own_nar_idem]
      have h := own_and255 (q.toUInt32 >>> ((2 : Int32) &&& 31).toUInt32).toInt32
      have e : nar .char ((((q.toUInt32 >>> ((2 : Int32) &&& 31).toUInt32).toInt32) &&& (255 : Int32)).toUInt32.toUInt16.toUInt32.toInt32) = nar .char (((q.toUInt32 >>> ((2 : Int32) &&& 31).toUInt32).toInt32) &&& (255 : Int32)) := own_nar_idem _
      rw [e]
      exact h
theorem own_max_lo {fr : Int32} (h : fr < 1) : own_f_max fr 0 = 0 := by
  unfold own_f_max; split
  · rfl
  · rename_i q
    apply Int32.toInt_inj.mp
    rw [Int32.lt_iff_toInt_lt] at h q
    have e0 : (0 : Int32).toInt = 0 := rfl
    have e1 : (1 : Int32).toInt = 1 := rfl
    omega
theorem own_max_hi {fr : Int32} (h : 3 < fr) : own_f_max fr 0 = fr := by
  unfold own_f_max; split
  · rename_i q
    rw [Int32.lt_iff_toInt_lt] at h q
    have e0 : (0 : Int32).toInt = 0 := rfl
    have e1 : (3 : Int32).toInt = 3 := rfl
    omega
  · rfl
theorem own_fr5 (fr : Int32) : fr < 1 ∨ fr = 1 ∨ fr = 2 ∨ fr = 3 ∨ 3 < fr := by
  simp only [Int32.lt_iff_toInt_lt, ← Int32.toInt_inj]
  have e1 : (1 : Int32).toInt = 1 := rfl
  have e2 : (2 : Int32).toInt = 2 := rfl
  have e3 : (3 : Int32).toInt = 3 := rfl
  omega
theorem own_len4 : own_f_len 4 = 4 := by decide
theorem own_min4 : own_f_min 4 4 = 4 := by decide
theorem own_cl (k : Nat) (h : k < 4) : (Int32.ofNat k).toNatClampNeg = k := by
  match k, h with
  | 0, _ => rfl
  | 1, _ => rfl
  | 2, _ => rfl
  | 3, _ => rfl
theorem own_three (c : Int32) : c = 64 ∨ c = 47 ∨ (¬ c = 64 ∧ ¬ c = 47) := by
  by_cases h : c = 64
  · exact Or.inl h
  · by_cases g : c = 47
    · exact Or.inr (Or.inl g)
    · exact Or.inr (Or.inr ⟨h, g⟩)
/-- indexOf over four places, from place k on -/
theorem own_sio4 (c0 c1 c2 c3 fr ch : Int32) : own_f_sio (([c0, c1, c2, c3] : List Int32).map (fun c => c.toInt8.toInt32)) (4 : Int32) ch fr = if own_f_max fr 0 < 4 then own_scan (ch.toInt8.toInt32) (([c0, c1, c2, c3] : List Int32).map (fun c => c.toInt8.toInt32)) (4 - (own_f_max fr 0).toNatClampNeg) (own_f_max fr 0).toNatClampNeg else -1 := by
  unfold own_f_sio own_f_lio; rw [own_len4, own_min4]; rfl
theorem own_plain (c0 c1 c2 c3 fr : Int32) (h0 : ¬ c0 < 0 ∧ ¬ (255 : Int32) < c0) (h1 : ¬ c1 < 0 ∧ ¬ (255 : Int32) < c1) (h2 : ¬ c2 < 0 ∧ ¬ (255 : Int32) < c2) (h3 : ¬ c3 < 0 ∧ ¬ (255 : Int32) < c3) : own_f_user (([c0, c1, c2, c3] : List Int32).map (fun c => c.toInt8.toInt32)) (4 : Int32) fr = own_f_ref c0 c1 c2 c3 fr := by
  have e0 : (0 : Int32).toNatClampNeg = 0 := rfl
  have e1 : (1 : Int32).toNatClampNeg = 1 := rfl
  have e2 : (2 : Int32).toNatClampNeg = 2 := rfl
  have e3 : (3 : Int32).toNatClampNeg = 3 := rfl
  have d01 : (0 : Int32) < 1 := by decide
  have d02 : (0 : Int32) < 2 := by decide
  have d12 : (1 : Int32) < 2 := by decide
  have d03 : (0 : Int32) < 3 := by decide
  have d13 : (1 : Int32) < 3 := by decide
  have d23 : (2 : Int32) < 3 := by decide
  have m1 : own_f_max 1 0 = 1 := by decide
  have m2 : own_f_max 2 0 = 2 := by decide
  have m3 : own_f_max 3 0 = 3 := by decide
  have b0 := fun b hb => own_byte h0 b hb
  have b1 := fun b hb => own_byte h1 b hb
  have b2 := fun b hb => own_byte h2 b hb
  have b3 := fun b hb => own_byte h3 b hb
  have x0 := b0 64 (by decide); have y0 := b0 47 (by decide)
  have x1 := b1 64 (by decide); have y1 := b1 47 (by decide)
  have x2 := b2 64 (by decide); have y2 := b2 47 (by decide)
  have x3 := b3 64 (by decide); have y3 := b3 47 (by decide)
  unfold own_f_user
  simp only [own_sio4]
  rcases own_fr5 fr with h | h | h | h | h
  · rw [own_max_lo h]
    have g0 : ¬ (0 : Int32) < fr := by rw [Int32.lt_iff_toInt_lt] at *; have u : (0 : Int32).toInt = 0 := rfl; have v : (1 : Int32).toInt = 1 := rfl; omega
    have g1 : ¬ (1 : Int32) < fr := by rw [Int32.lt_iff_toInt_lt] at *; have u : (0 : Int32).toInt = 0 := rfl; have v : (1 : Int32).toInt = 1 := rfl; omega
    have g2 : ¬ (2 : Int32) < fr := by rw [Int32.lt_iff_toInt_lt] at *; have u : (2 : Int32).toInt = 2 := rfl; have v : (1 : Int32).toInt = 1 := rfl; omega
    have g3 : ¬ (3 : Int32) < fr := by rw [Int32.lt_iff_toInt_lt] at *; have u : (3 : Int32).toInt = 3 := rfl; have v : (1 : Int32).toInt = 1 := rfl; omega
    simp only [own_f_ref, own_f_hit, g0, g1, g2, g3, if_false, e0, Nat.sub_zero, own_scanS, own_scan0, List.map, List.getD_cons_zero, List.getD_cons_succ, x0, x1, x2, x3, y0, y1, y2, y3]
    rcases own_three c0 with q | q | ⟨q, q'⟩ <;> rcases own_three c1 with t | t | ⟨t, t'⟩ <;> rcases own_three c2 with u | u | ⟨u, u'⟩ <;> rcases own_three c3 with w | w | ⟨w, w'⟩ <;> simp only [*] <;> decide
  · subst h
    simp only [own_f_ref, own_f_hit, m1, e1, d01, d02, d12, d03, d13, d23, if_true, Nat.reduceSub, own_scanS, own_scan0, List.map, List.getD_cons_zero, List.getD_cons_succ, x0, x1, x2, x3, y0, y1, y2, y3]
    rcases own_three c1 with t | t | ⟨t, t'⟩ <;> rcases own_three c2 with u | u | ⟨u, u'⟩ <;> rcases own_three c3 with w | w | ⟨w, w'⟩ <;> simp only [*] <;> decide
  · subst h
    simp only [own_f_ref, own_f_hit, m2, e2, d01, d02, d12, d03, d13, d23, if_true, Nat.reduceSub, own_scanS, own_scan0, List.map, List.getD_cons_zero, List.getD_cons_succ, x0, x1, x2, x3, y0, y1, y2, y3]
    rcases own_three c2 with u | u | ⟨u, u'⟩ <;> rcases own_three c3 with w | w | ⟨w, w'⟩ <;> simp only [*] <;> decide
  · subst h
    simp only [own_f_ref, own_f_hit, m3, e3, d01, d02, d12, d03, d13, d23, if_true, Nat.reduceSub, own_scanS, own_scan0, List.map, List.getD_cons_zero, List.getD_cons_succ, x0, x1, x2, x3, y0, y1, y2, y3]
    rcases own_three c3 with w | w | ⟨w, w'⟩ <;> simp only [*] <;> decide
  · have g0 : (0 : Int32) < fr := by rw [Int32.lt_iff_toInt_lt] at *; have u : (0 : Int32).toInt = 0 := rfl; have v : (3 : Int32).toInt = 3 := rfl; omega
    have g1 : (1 : Int32) < fr := by rw [Int32.lt_iff_toInt_lt] at *; have u : (1 : Int32).toInt = 1 := rfl; have v : (3 : Int32).toInt = 3 := rfl; omega
    have g2 : (2 : Int32) < fr := by rw [Int32.lt_iff_toInt_lt] at *; have u : (2 : Int32).toInt = 2 := rfl; have v : (3 : Int32).toInt = 3 := rfl; omega
    have g4 : ¬ fr < 4 := by rw [Int32.lt_iff_toInt_lt] at *; have u : (4 : Int32).toInt = 4 := rfl; have v : (3 : Int32).toInt = 3 := rfl; omega
    simp only [own_max_hi h, own_f_ref, own_f_hit, g0, g1, g2, h, g4, if_true, if_false]
    decide

theorem own_ef9 (m : MethodId) (x0 : Int32) (x1 : Int32) (x2 : Int32) (x3 : Int32) (x4 : Int32) (x5 : Int32) : entryFrame m #[(.int x0), (.int x1), (.int x2), (.int x3), (.int x4), (.int x5)] maxLocals = mkF m 0 #[.val (.int x0), .val (.int x1), .val (.int x2), .val (.int x3), .val (.int x4), .val (.int x5), .unset, .unset, .unset, .unset] [] := by first | rfl | (simp [entryFrame, mkF, argsToLocals, Value.category, maxLocals]; done)
theorem own_pd7 : parseMethodDescriptor "(I)C" = some ⟨[.int], some .char⟩ := by decide +kernel
theorem own_pd8 : parseMethodDescriptor "([C)V" = some ⟨[(.array .char)], none⟩ := by decide +kernel
theorem own_pd9 : parseMethodDescriptor "(Ljava/lang/String;I)Z" = some ⟨[(.object "java/lang/String"), .int], some .boolean⟩ := by decide +kernel
theorem own_pd10 : parseMethodDescriptor "([CI)Z" = some ⟨[(.array .char), .int], some .boolean⟩ := by decide +kernel
set_option maxRecDepth 65536 in
set_option maxHeartbeats 40000000 in
theorem own_rm_law (l : Launch) (Z : State) (a0 : Array Value) (hw : ∀ d ∈ tables_1, d.before a0 Z = true) (ws : List Jvm.Cond) (p0 p1 p2 p3 p4 p5 G1 : Int32) (n0 : Nat) (h0 : Heap) (Z0 : n0 ≤ h0.size) (O : Sta Z Z.heap "java/lang/String" "COMPACT_STRINGS" "Z" (.int G1)) (X00 : Old Z n0 h0) (hz : ¬ G1 = (0 : Int32)) :
    MetFree l x (head1 (Jvm.Cond.code x code maxLocals ret :: ws) room_1) (fun aa U => aa = #[(.int p0), (.int p1), (.int p2), (.int p3), (.int p4), (.int p5)] ∧ Z.Warmed39 U.vm ∧ U.heap = h0) (fun _ _ _ _ _ => True) (fun _ U o U' => ∃ v L, o = .returned v ∧ (fun v h L => v = some (.int (1 : Int32)) ∧ Fr n0 L) v U'.heap L ∧ FrameEnd U o U' L room_1.cells room_1.slots) := by
  refine MetFree.of_bodySF (plainFor_of_name own_pn0) hisR ?_
  intro p e s m args below meth c s₁ Bd hml0 hP hK
  obtain ⟨rfl, hZ, hh⟩ := hP
  have hx := Bd.exec
  have hby := Bd.bytes
  have hml : c.maxLocals = 10 := hml0
  have hlk : meth.locks = false := BodyLoose.notSynchronized Bd
  have hown : s.vm.findClass "com/example/encon/encon/UrlSyntaxUserInfoMayEndAfterPinLaw" = some m.cls := findClass_of_methodNamed Bd.named
  have hnm := (name_of_methodNamed Bd.named Bd.method).1
  have X0 : Stand p l e room_1 s m #[(.int p0), (.int p1), (.int p2), (.int p3), (.int p4), (.int p5)] below meth c s₁ [] 0 0 := Stand.of_body Bd
  have e0 : s₁.heap = h0 := by rw [← hh, Bd.state]; rfl
  rw [own_ef9 m p0 p1 p2 p3 p4 p5]
  show own_Go p e below s room_1.cells room_1.slots (fun v h L => v = some (.int (1 : Int32)) ∧ Fr n0 L) s₁ (mkF m 0 #[.val (.int p0), .val (.int p1), .val (.int p2), .val (.int p3), .val (.int p4), .val (.int p5), .unset, .unset, .unset, .unset] [])
  have N0 := Fr.nil n0
  obtain ⟨c0, q0⟩ : ∃ z, z = nar .char (own_f_draw p0) := ⟨_, rfl⟩
  have rg0 := own_draw_rng p0
  rw [← q0] at rg0
  obtain ⟨c1, q1⟩ : ∃ z, z = nar .char (own_f_draw p1) := ⟨_, rfl⟩
  have rg1 := own_draw_rng p1
  rw [← q1] at rg1
  obtain ⟨c2, q2⟩ : ∃ z, z = nar .char (own_f_draw p2) := ⟨_, rfl⟩
  have rg2 := own_draw_rng p2
  rw [← q2] at rg2
  obtain ⟨c3, q3⟩ : ∃ z, z = nar .char (own_f_draw p3) := ⟨_, rfl⟩
  have rg3 := own_draw_rng p3
  rw [← q3] at rg3
  have hws : ∀ d ∈ StrChars.Road.words, d.before a0 Z = true := fun d hd => hw d ((by decide +kernel : ∀ d ∈ StrChars.Road.words, d ∈ tables_1) d hd)
  have hp : ∀ c ∈ ([c0, c1, c2, c3] : List Int32), ¬ c < 0 ∧ ¬ (255 : Int32) < c := by
    intro c hc
    simp only [List.mem_cons, List.not_mem_nil, or_false] at hc
    rcases hc with h | h | h | h <;> rw [h] <;> assumption
  refine own_st (g' := (mkF m 1 #[.val (.int p0), .val (.int p1), .val (.int p2), .val (.int p3), .val (.int p4), .val (.int p5), .unset, .unset, .unset, .unset] [(.int (4 : Int32))])) (fun _ q => XS.iconst X0.here hx rfl (hb hby at_0) (q)) ?_
  obtain ⟨T1, h1, k1, X1, e1, E1, A1, st1⟩ := newP X0 hx hZ (hw _ (List.mem_of_getElem? (i := 0) rfl)) e0 (g := (mkF m 1 #[.val (.int p0), .val (.int p1), .val (.int p2), .val (.int p3), .val (.int p4), .val (.int p5), .unset, .unset, .unset, .unset] [(.int (4 : Int32))])) rfl (hb hby at_1) rfl (by decide) (cap := 4) (by decide) (by decide) (by decide) (by decide)
  obtain ⟨b1, g1⟩ : ∃ z, z = h0.size := ⟨_, rfl⟩
  rw [← g1] at A1 st1
  have V1 : Arv Z h1 b1 k1 .char (4 : Int32) [(.int (0 : Int32)), (.int (0 : Int32)), (.int (0 : Int32)), (.int (0 : Int32))] (.int (0 : Int32)) := (Arv.new A1 (by decide)).pad (pad_rep [] (.int (0 : Int32)) 4)
  refine own_st (g' := (mkF m 3 #[.val (.int p0), .val (.int p1), .val (.int p2), .val (.int p3), .val (.int p4), .val (.int p5), .unset, .unset, .unset, .unset] [(.ref b1)])) st1 ?_
  refine own_st (g' := (mkF m 9 #[.val (.int p0), .val (.int p1), .val (.int p2), .val (.int p3), .val (.int p4), .val (.int p5), .val (.ref b1), .unset, .unset, .unset] [(.int p0), (.int (0 : Int32)), (.ref b1)])) (fun _ q => XS.astore X1.here hx rfl (hb hby at_3) rfl rfl (l' := #[.val (.int p0), .val (.int p1), .val (.int p2), .val (.int p3), .val (.int p4), .val (.int p5), .val (.ref b1), .unset, .unset, .unset]) rfl (XS.aload X1.here hx rfl (hb hby at_5) rfl rfl (XS.iconst X1.here hx rfl (hb hby at_7) (XS.iloadN X1.here hx rfl (hb hby at_8) rfl (q))))) ?_
  obtain ⟨r2, hr2⟩ : ∃ z : Int32, z = (own_f_draw p0) := ⟨_, rfl⟩
  have K2 : own_Bk l room_1 p e below s #[(.int p0), (.int p1), (.int p2), (.int p3), (.int p4), (.int p5)] (⟨"com/example/encon/encon/UrlSyntaxUserInfoMayEndAfterPinLaw", "draw", "(I)C"⟩ : MethodName) 2 h1 #[(.int p0)] 0 0 (fun v h L => v = some (.int r2) ∧ L = [] ∧ h = h1) := backOf (R := room_1) (W := 2) (Q := (fun v h L => v = some (.int r2) ∧ L = [] ∧ h = h1)) (rm := ({ frames := 0, cells := 0, slots := 0, locals := 0 } : Room)) (own_rm_draw l Z a0 hw [] p0 r2 h1  (by rw [hr2])) hZ (hw _ (List.mem_of_getElem? (i := 4) rfl)) (hw _ (List.mem_of_getElem? (i := 3) rfl)) (by decide) (by decide)
  obtain ⟨T3, X3, e3, st3⟩ := own_pure (own_cS X1 hx hZ hown (hw _ (List.mem_of_getElem? (i := 1) rfl)) (hw _ (List.mem_of_getElem? (i := 2) rfl)) (hw _ (List.mem_of_getElem? (i := 3) rfl)) (hw _ (List.mem_of_getElem? (i := 4) rfl)) (by decide) e1 (h := h1) (argsL := [(.int p0)]) (rest := [(.int (0 : Int32)), (.ref b1)]) K2 (pc := 9) (Ls := #[.val (.int p0), .val (.int p1), .val (.int p2), .val (.int p3), .val (.int p4), .val (.int p5), .val (.ref b1), .unset, .unset, .unset]) (by rw [hml]; rfl) (lenOf own_pd7 rfl) rfl (Nat.le_of_eq rfl) (hb hby at_9) (by decide) (by decide))
  refine own_st (g' := (mkF m 12 #[.val (.int p0), .val (.int p1), .val (.int p2), .val (.int p3), .val (.int p4), .val (.int p5), .val (.ref b1), .unset, .unset, .unset] [(.int r2), (.int (0 : Int32)), (.ref b1)])) st3 ?_
  obtain ⟨T4, h4, X4, e4, V4, W4, st4⟩ := own_cast X3 hx hZ e3 V1 (j := (0 : Int32)) (x := r2) ⟨by decide, by decide⟩ 0 rfl (Nat.le_of_ble_eq_true rfl) (pc := 12) (Ls := #[.val (.int p0), .val (.int p1), .val (.int p2), .val (.int p3), .val (.int p4), .val (.int p5), .val (.ref b1), .unset, .unset, .unset]) (rest := []) (hb hby at_12)
  replace V4 : Arv Z h4 b1 k1 .char (4 : Int32) [(.int c0), (.int (0 : Int32)), (.int (0 : Int32)), (.int (0 : Int32))] (.int (0 : Int32)) := by rw [q0, ← hr2]; exact V4
  have N4 := Fr.snoc X4 N0 (Nat.le_trans Z0 (Nat.le_of_eq g1.symm))
  refine own_st (g' := (mkF m 13 #[.val (.int p0), .val (.int p1), .val (.int p2), .val (.int p3), .val (.int p4), .val (.int p5), .val (.ref b1), .unset, .unset, .unset] [])) st4 ?_
  refine own_st (g' := (mkF m 17 #[.val (.int p0), .val (.int p1), .val (.int p2), .val (.int p3), .val (.int p4), .val (.int p5), .val (.ref b1), .unset, .unset, .unset] [(.int p1), (.int (1 : Int32)), (.ref b1)])) (fun _ q => XS.aload X4.here hx rfl (hb hby at_13) rfl rfl (XS.iconst X4.here hx rfl (hb hby at_15) (XS.iloadN X4.here hx rfl (hb hby at_16) rfl (q)))) ?_
  obtain ⟨r5, hr5⟩ : ∃ z : Int32, z = (own_f_draw p1) := ⟨_, rfl⟩
  have K5 : own_Bk l room_1 p e below s #[(.int p0), (.int p1), (.int p2), (.int p3), (.int p4), (.int p5)] (⟨"com/example/encon/encon/UrlSyntaxUserInfoMayEndAfterPinLaw", "draw", "(I)C"⟩ : MethodName) 2 h4 #[(.int p1)] 0 0 (fun v h L => v = some (.int r5) ∧ L = [] ∧ h = h4) := backOf (R := room_1) (W := 2) (Q := (fun v h L => v = some (.int r5) ∧ L = [] ∧ h = h4)) (rm := ({ frames := 0, cells := 0, slots := 0, locals := 0 } : Room)) (own_rm_draw l Z a0 hw [] p1 r5 h4  (by rw [hr5])) hZ (hw _ (List.mem_of_getElem? (i := 4) rfl)) (hw _ (List.mem_of_getElem? (i := 3) rfl)) (by decide) (by decide)
  obtain ⟨T6, X6, e6, st6⟩ := own_pure (own_cS X4 hx hZ hown (hw _ (List.mem_of_getElem? (i := 1) rfl)) (hw _ (List.mem_of_getElem? (i := 2) rfl)) (hw _ (List.mem_of_getElem? (i := 3) rfl)) (hw _ (List.mem_of_getElem? (i := 4) rfl)) (by decide) e4 (h := h4) (argsL := [(.int p1)]) (rest := [(.int (1 : Int32)), (.ref b1)]) K5 (pc := 17) (Ls := #[.val (.int p0), .val (.int p1), .val (.int p2), .val (.int p3), .val (.int p4), .val (.int p5), .val (.ref b1), .unset, .unset, .unset]) (by rw [hml]; rfl) (lenOf own_pd7 rfl) rfl (Nat.le_of_eq rfl) (hb hby at_17) (by decide) (by decide))
  refine own_st (g' := (mkF m 20 #[.val (.int p0), .val (.int p1), .val (.int p2), .val (.int p3), .val (.int p4), .val (.int p5), .val (.ref b1), .unset, .unset, .unset] [(.int r5), (.int (1 : Int32)), (.ref b1)])) st6 ?_
  obtain ⟨T7, h7, X7, e7, V7, W7, st7⟩ := own_cast X6 hx hZ e6 V4 (j := (1 : Int32)) (x := r5) ⟨by decide, by decide⟩ 1 rfl (Nat.le_of_ble_eq_true rfl) (pc := 20) (Ls := #[.val (.int p0), .val (.int p1), .val (.int p2), .val (.int p3), .val (.int p4), .val (.int p5), .val (.ref b1), .unset, .unset, .unset]) (rest := []) (hb hby at_20)
  replace V7 : Arv Z h7 b1 k1 .char (4 : Int32) [(.int c0), (.int c1), (.int (0 : Int32)), (.int (0 : Int32))] (.int (0 : Int32)) := by rw [q1, ← hr5]; exact V7
  have N7 := Fr.snoc X7 N4 (Nat.le_trans Z0 (Nat.le_of_eq g1.symm))
  refine own_st (g' := (mkF m 21 #[.val (.int p0), .val (.int p1), .val (.int p2), .val (.int p3), .val (.int p4), .val (.int p5), .val (.ref b1), .unset, .unset, .unset] [])) st7 ?_
  refine own_st (g' := (mkF m 25 #[.val (.int p0), .val (.int p1), .val (.int p2), .val (.int p3), .val (.int p4), .val (.int p5), .val (.ref b1), .unset, .unset, .unset] [(.int p2), (.int (2 : Int32)), (.ref b1)])) (fun _ q => XS.aload X7.here hx rfl (hb hby at_21) rfl rfl (XS.iconst X7.here hx rfl (hb hby at_23) (XS.iloadN X7.here hx rfl (hb hby at_24) rfl (q)))) ?_
  obtain ⟨r8, hr8⟩ : ∃ z : Int32, z = (own_f_draw p2) := ⟨_, rfl⟩
  have K8 : own_Bk l room_1 p e below s #[(.int p0), (.int p1), (.int p2), (.int p3), (.int p4), (.int p5)] (⟨"com/example/encon/encon/UrlSyntaxUserInfoMayEndAfterPinLaw", "draw", "(I)C"⟩ : MethodName) 2 h7 #[(.int p2)] 0 0 (fun v h L => v = some (.int r8) ∧ L = [] ∧ h = h7) := backOf (R := room_1) (W := 2) (Q := (fun v h L => v = some (.int r8) ∧ L = [] ∧ h = h7)) (rm := ({ frames := 0, cells := 0, slots := 0, locals := 0 } : Room)) (own_rm_draw l Z a0 hw [] p2 r8 h7  (by rw [hr8])) hZ (hw _ (List.mem_of_getElem? (i := 4) rfl)) (hw _ (List.mem_of_getElem? (i := 3) rfl)) (by decide) (by decide)
  obtain ⟨T9, X9, e9, st9⟩ := own_pure (own_cS X7 hx hZ hown (hw _ (List.mem_of_getElem? (i := 1) rfl)) (hw _ (List.mem_of_getElem? (i := 2) rfl)) (hw _ (List.mem_of_getElem? (i := 3) rfl)) (hw _ (List.mem_of_getElem? (i := 4) rfl)) (by decide) e7 (h := h7) (argsL := [(.int p2)]) (rest := [(.int (2 : Int32)), (.ref b1)]) K8 (pc := 25) (Ls := #[.val (.int p0), .val (.int p1), .val (.int p2), .val (.int p3), .val (.int p4), .val (.int p5), .val (.ref b1), .unset, .unset, .unset]) (by rw [hml]; rfl) (lenOf own_pd7 rfl) rfl (Nat.le_of_eq rfl) (hb hby at_25) (by decide) (by decide))
  refine own_st (g' := (mkF m 28 #[.val (.int p0), .val (.int p1), .val (.int p2), .val (.int p3), .val (.int p4), .val (.int p5), .val (.ref b1), .unset, .unset, .unset] [(.int r8), (.int (2 : Int32)), (.ref b1)])) st9 ?_
  obtain ⟨T10, h10, X10, e10, V10, W10, st10⟩ := own_cast X9 hx hZ e9 V7 (j := (2 : Int32)) (x := r8) ⟨by decide, by decide⟩ 2 rfl (Nat.le_of_ble_eq_true rfl) (pc := 28) (Ls := #[.val (.int p0), .val (.int p1), .val (.int p2), .val (.int p3), .val (.int p4), .val (.int p5), .val (.ref b1), .unset, .unset, .unset]) (rest := []) (hb hby at_28)
  replace V10 : Arv Z h10 b1 k1 .char (4 : Int32) [(.int c0), (.int c1), (.int c2), (.int (0 : Int32))] (.int (0 : Int32)) := by rw [q2, ← hr8]; exact V10
  have N10 := Fr.snoc X10 N7 (Nat.le_trans Z0 (Nat.le_of_eq g1.symm))
  refine own_st (g' := (mkF m 29 #[.val (.int p0), .val (.int p1), .val (.int p2), .val (.int p3), .val (.int p4), .val (.int p5), .val (.ref b1), .unset, .unset, .unset] [])) st10 ?_
  refine own_st (g' := (mkF m 33 #[.val (.int p0), .val (.int p1), .val (.int p2), .val (.int p3), .val (.int p4), .val (.int p5), .val (.ref b1), .unset, .unset, .unset] [(.int p3), (.int (3 : Int32)), (.ref b1)])) (fun _ q => XS.aload X10.here hx rfl (hb hby at_29) rfl rfl (XS.iconst X10.here hx rfl (hb hby at_31) (XS.iloadN X10.here hx rfl (hb hby at_32) rfl (q)))) ?_
  obtain ⟨r11, hr11⟩ : ∃ z : Int32, z = (own_f_draw p3) := ⟨_, rfl⟩
  have K11 : own_Bk l room_1 p e below s #[(.int p0), (.int p1), (.int p2), (.int p3), (.int p4), (.int p5)] (⟨"com/example/encon/encon/UrlSyntaxUserInfoMayEndAfterPinLaw", "draw", "(I)C"⟩ : MethodName) 2 h10 #[(.int p3)] 0 0 (fun v h L => v = some (.int r11) ∧ L = [] ∧ h = h10) := backOf (R := room_1) (W := 2) (Q := (fun v h L => v = some (.int r11) ∧ L = [] ∧ h = h10)) (rm := ({ frames := 0, cells := 0, slots := 0, locals := 0 } : Room)) (own_rm_draw l Z a0 hw [] p3 r11 h10  (by rw [hr11])) hZ (hw _ (List.mem_of_getElem? (i := 4) rfl)) (hw _ (List.mem_of_getElem? (i := 3) rfl)) (by decide) (by decide)
  obtain ⟨T12, X12, e12, st12⟩ := own_pure (own_cS X10 hx hZ hown (hw _ (List.mem_of_getElem? (i := 1) rfl)) (hw _ (List.mem_of_getElem? (i := 2) rfl)) (hw _ (List.mem_of_getElem? (i := 3) rfl)) (hw _ (List.mem_of_getElem? (i := 4) rfl)) (by decide) e10 (h := h10) (argsL := [(.int p3)]) (rest := [(.int (3 : Int32)), (.ref b1)]) K11 (pc := 33) (Ls := #[.val (.int p0), .val (.int p1), .val (.int p2), .val (.int p3), .val (.int p4), .val (.int p5), .val (.ref b1), .unset, .unset, .unset]) (by rw [hml]; rfl) (lenOf own_pd7 rfl) rfl (Nat.le_of_eq rfl) (hb hby at_33) (by decide) (by decide))
  refine own_st (g' := (mkF m 36 #[.val (.int p0), .val (.int p1), .val (.int p2), .val (.int p3), .val (.int p4), .val (.int p5), .val (.ref b1), .unset, .unset, .unset] [(.int r11), (.int (3 : Int32)), (.ref b1)])) st12 ?_
  obtain ⟨T13, h13, X13, e13, V13, W13, st13⟩ := own_cast X12 hx hZ e12 V10 (j := (3 : Int32)) (x := r11) ⟨by decide, by decide⟩ 3 rfl (Nat.le_of_ble_eq_true rfl) (pc := 36) (Ls := #[.val (.int p0), .val (.int p1), .val (.int p2), .val (.int p3), .val (.int p4), .val (.int p5), .val (.ref b1), .unset, .unset, .unset]) (rest := []) (hb hby at_36)
  replace V13 : Arv Z h13 b1 k1 .char (4 : Int32) [(.int c0), (.int c1), (.int c2), (.int c3)] (.int (0 : Int32)) := by rw [q3, ← hr11]; exact V13
  have N13 := Fr.snoc X13 N10 (Nat.le_trans Z0 (Nat.le_of_eq g1.symm))
  refine own_st (g' := (mkF m 37 #[.val (.int p0), .val (.int p1), .val (.int p2), .val (.int p3), .val (.int p4), .val (.int p5), .val (.ref b1), .unset, .unset, .unset] [])) st13 ?_
  refine own_st (g' := (mkF m 41 #[.val (.int p0), .val (.int p1), .val (.int p2), .val (.int p3), .val (.int p4), .val (.int p5), .val (.ref b1), .unset, .unset, .unset] [(.int (p5 &&& (1 : Int32)))])) (fun _ q => XS.iload X13.here hx rfl (hb hby at_37) rfl (XS.iconst X13.here hx rfl (hb hby at_39) (XS.iand X13.here hx rfl (hb hby at_40) rfl (q)))) ?_
  by_cases hc14 : (p5 &&& (1 : Int32)) = (0 : Int32)
  · -- (p5 &&& (1 : Int32)) = (0 : Int32)
    refine own_st (g' := (mkF m 58 #[.val (.int p0), .val (.int p1), .val (.int p2), .val (.int p3), .val (.int p4), .val (.int p5), .val (.ref b1), .val (.int ((p4 &&& (7 : Int32)) - (2 : Int32))), .unset, .unset] [])) (fun _ q => XS.ifYes X13.here hx rfl (pc0 := 41) (pc' := 49) rfl (hb hby at_41) rfl ((if0 _ _).trans (teq hc14).1) (by decide) (by decide) (XS.iload X13.here hx rfl (hb hby at_49) rfl (XS.bipush X13.here hx rfl (hb hby at_51) (XS.iand X13.here hx rfl (hb hby at_53) rfl (XS.iconst X13.here hx rfl (hb hby at_54) (XS.isub X13.here hx rfl (hb hby at_55) rfl (XS.istore X13.here hx rfl (hb hby at_56) rfl (l' := #[.val (.int p0), .val (.int p1), .val (.int p2), .val (.int p3), .val (.int p4), .val (.int p5), .val (.ref b1), .val (.int ((p4 &&& (7 : Int32)) - (2 : Int32))), .unset, .unset]) rfl (q)))))))) ?_
    obtain ⟨T15, h15, X15, e15, E15, A15, D15, U15, st15⟩ := newO X13 hx hZ hown (hw _ (List.mem_of_getElem? (i := 5) rfl)) (hw _ (List.mem_of_getElem? (i := 6) rfl)) (hw _ (List.mem_of_getElem? (i := 7) rfl)) e13 (g := (mkF m 58 #[.val (.int p0), .val (.int p1), .val (.int p2), .val (.int p3), .val (.int p4), .val (.int p5), .val (.ref b1), .val (.int ((p4 &&& (7 : Int32)) - (2 : Int32))), .unset, .unset] [])) rfl (hb hby at_58) (by decide) (by decide)
    obtain ⟨b15, g15⟩ : ∃ z, z = h13.size := ⟨_, rfl⟩
    rw [← g15] at A15 D15 U15 st15
    have F15_coder : Fld Z h15 b15 "java/lang/String" "coder" "B" (.int (0 : Int32)) := D15 (Or.inr (hw _ (List.mem_of_getElem? (i := 31) rfl))) (ty := .byte) (by decide)
    have F15_value : Fld Z h15 b15 "java/lang/String" "value" "[B" .null := D15 (Or.inr (hw _ (List.mem_of_getElem? (i := 33) rfl))) (ty := (.array .byte)) (by decide)
    refine own_st (g' := (mkF m 61 #[.val (.int p0), .val (.int p1), .val (.int p2), .val (.int p3), .val (.int p4), .val (.int p5), .val (.ref b1), .val (.int ((p4 &&& (7 : Int32)) - (2 : Int32))), .unset, .unset] [(.ref b15)])) st15 ?_
    refine own_st (g' := (mkF m 64 #[.val (.int p0), .val (.int p1), .val (.int p2), .val (.int p3), .val (.int p4), .val (.int p5), .val (.ref b1), .val (.int ((p4 &&& (7 : Int32)) - (2 : Int32))), .unset, .unset] [(.ref b1), (.ref b15), (.ref b15)])) (fun _ q => XS.dup X15.here hx rfl (hb hby at_61) rfl rfl (XS.aload X15.here hx rfl (hb hby at_62) rfl rfl (q))) ?_
    obtain ⟨_, L16, T16, X16, ⟨rfl, N16q, K16, E16, C16, t16, kb16, u16, v16, w16, F16, A16⟩, st16⟩ := own_cI X15 hx hZ rfl hown (hw _ (List.mem_of_getElem? (i := 8) rfl)) (hw _ (List.mem_of_getElem? (i := 9) rfl)) (hw _ (List.mem_of_getElem? (i := 10) rfl)) (by decide) e15 (h := h15) (b := b15) (argsL := [(.ref b1)]) (rest := [(.ref b15)]) (StrChars.Road.backV (W := 1) hZ hws (kI := 4) (hw _ (List.mem_of_getElem? (i := 6) rfl)) (cs := ([c0, c1, c2, c3] : List Int32)) (bs := (([c0, c1, c2, c3] : List Int32)).map (fun c => c.toInt8.toInt32)) (n := 4) (n0 := n0) (Nat.le_trans (Nat.le_trans Z0 (Nat.le_trans (Nat.le_trans (Nat.le_trans (Nat.le_trans E1.1 (Keep.of_wr W4).1) (Keep.of_wr W7).1) (Keep.of_wr W10).1) (Keep.of_wr W13).1)) (Nat.le_of_eq g15.symm)) (Nat.le_trans Z0 (Nat.le_trans (Nat.le_trans (Nat.le_trans (Nat.le_trans (Nat.le_trans E1.1 (Keep.of_wr W4).1) (Keep.of_wr W7).1) (Keep.of_wr W10).1) (Keep.of_wr W13).1) E15.1)) A15 F15_value F15_coder (V13.ext E15) (O.ext ((((((X00.ext E1).wr W4 (Nat.le_trans Z0 (Nat.le_of_eq g1.symm))).wr W7 (Nat.le_trans Z0 (Nat.le_of_eq g1.symm))).wr W10 (Nat.le_trans Z0 (Nat.le_of_eq g1.symm))).wr W13 (Nat.le_trans Z0 (Nat.le_of_eq g1.symm))).ext E15).2) hz rfl rfl (by decide) (by decide) hp rfl (by decide) (by decide)) (pc := 64) (Ls := #[.val (.int p0), .val (.int p1), .val (.int p2), .val (.int p3), .val (.int p4), .val (.int p5), .val (.ref b1), .val (.int ((p4 &&& (7 : Int32)) - (2 : Int32))), .unset, .unset]) (by rw [hml]; rfl) (lenOf own_pd8 rfl) rfl (Nat.le_of_eq rfl) (hb hby at_64) (by decide) (by decide)
    refine own_st (g' := (mkF m 67 #[.val (.int p0), .val (.int p1), .val (.int p2), .val (.int p3), .val (.int p4), .val (.int p5), .val (.ref b1), .val (.int ((p4 &&& (7 : Int32)) - (2 : Int32))), .unset, .unset] [(.ref b15)])) st16 ?_
    have N16 := Fr.app N13 N16q
    refine own_st (g' := (mkF m 73 #[.val (.int p0), .val (.int p1), .val (.int p2), .val (.int p3), .val (.int p4), .val (.int p5), .val (.ref b1), .val (.int ((p4 &&& (7 : Int32)) - (2 : Int32))), .val (.ref b15), .unset] [(.int ((p4 &&& (7 : Int32)) - (2 : Int32))), (.ref b15)])) (fun _ q => XS.astore X16.here hx rfl (hb hby at_67) rfl rfl (l' := #[.val (.int p0), .val (.int p1), .val (.int p2), .val (.int p3), .val (.int p4), .val (.int p5), .val (.ref b1), .val (.int ((p4 &&& (7 : Int32)) - (2 : Int32))), .val (.ref b15), .unset]) rfl (XS.aload X16.here hx rfl (hb hby at_69) rfl rfl (XS.iload X16.here hx rfl (hb hby at_71) rfl (q)))) ?_
    obtain ⟨r17, hr17⟩ : ∃ z : Int32, z = (own_f_user (([c0, c1, c2, c3] : List Int32).map (fun c => c.toInt8.toInt32)) (4 : Int32) ((p4 &&& (7 : Int32)) - (2 : Int32))) := ⟨_, rfl⟩
    have K17 : own_Bk l room_1 p e below s #[(.int p0), (.int p1), (.int p2), (.int p3), (.int p4), (.int p5)] (⟨"com/example/encon/encon/UrlSyntax", "userInfoMayEndAfter", "(Ljava/lang/String;I)Z"⟩ : MethodName) 0 T16.heap #[(.ref b15), (.int ((p4 &&& (7 : Int32)) - (2 : Int32)))] 0 0 (fun v h L => v = some (.int r17) ∧ L = [] ∧ h = T16.heap) := backOf (R := room_1) (W := 0) (Q := (fun v h L => v = some (.int r17) ∧ L = [] ∧ h = T16.heap)) (rm := ({ frames := 3, cells := 0, slots := 0, locals := 46 } : Room)) (own_rm_user l Z a0 hw [] b15 t16 kb16 (([c0, c1, c2, c3] : List Int32).map (fun c => c.toInt8.toInt32)) (4 : Int32) G1 ((p4 &&& (7 : Int32)) - (2 : Int32)) r17 T16.heap (O.ext (((((((X00.ext E1).wr W4 (Nat.le_trans Z0 (Nat.le_of_eq g1.symm))).wr W7 (Nat.le_trans Z0 (Nat.le_of_eq g1.symm))).wr W10 (Nat.le_trans Z0 (Nat.le_of_eq g1.symm))).wr W13 (Nat.le_trans Z0 (Nat.le_of_eq g1.symm))).ext E15).keep K16 (allS (Nat.le_trans (Nat.le_trans Z0 (Nat.le_trans (Nat.le_trans (Nat.le_trans (Nat.le_trans E1.1 (Keep.of_wr W4).1) (Keep.of_wr W7).1) (Keep.of_wr W10).1) (Keep.of_wr W13).1)) (Nat.le_of_eq g15.symm)) all0)).2) hz C16 E16 F16 A16 (show (4 : Int32) = Int32.ofNat 4 from rfl) (show 4 < 2 ^ 31 from by decide) (by rw [hr17])) hZ (hw _ (List.mem_of_getElem? (i := 37) rfl)) (hw _ (List.mem_of_getElem? (i := 36) rfl)) (by decide) (by decide)
    obtain ⟨T18, X18, e18, st18⟩ := own_pure (own_cS X16 hx hZ hown (hw _ (List.mem_of_getElem? (i := 34) rfl)) (hw _ (List.mem_of_getElem? (i := 35) rfl)) (hw _ (List.mem_of_getElem? (i := 36) rfl)) (hw _ (List.mem_of_getElem? (i := 37) rfl)) (by decide) rfl (h := T16.heap) (argsL := [(.ref b15), (.int ((p4 &&& (7 : Int32)) - (2 : Int32)))]) (rest := []) K17 (pc := 73) (Ls := #[.val (.int p0), .val (.int p1), .val (.int p2), .val (.int p3), .val (.int p4), .val (.int p5), .val (.ref b1), .val (.int ((p4 &&& (7 : Int32)) - (2 : Int32))), .val (.ref b15), .unset]) (by rw [hml]; rfl) (lenOf own_pd9 rfl) rfl (Nat.le_of_eq rfl) (hb hby at_73) (by decide) (by decide))
    refine own_st (g' := (mkF m 76 #[.val (.int p0), .val (.int p1), .val (.int p2), .val (.int p3), .val (.int p4), .val (.int p5), .val (.ref b1), .val (.int ((p4 &&& (7 : Int32)) - (2 : Int32))), .val (.ref b15), .unset] [(.int r17)])) st18 ?_
    refine own_st (g' := (mkF m 84 #[.val (.int p0), .val (.int p1), .val (.int p2), .val (.int p3), .val (.int p4), .val (.int p5), .val (.ref b1), .val (.int ((p4 &&& (7 : Int32)) - (2 : Int32))), .val (.ref b15), .val (.int r17)] [(.int ((p4 &&& (7 : Int32)) - (2 : Int32))), (.ref b1), (.int r17)])) (fun _ q => XS.istore X18.here hx rfl (hb hby at_76) rfl (l' := #[.val (.int p0), .val (.int p1), .val (.int p2), .val (.int p3), .val (.int p4), .val (.int p5), .val (.ref b1), .val (.int ((p4 &&& (7 : Int32)) - (2 : Int32))), .val (.ref b15), .val (.int r17)]) rfl (XS.iload X18.here hx rfl (hb hby at_78) rfl (XS.aload X18.here hx rfl (hb hby at_80) rfl rfl (XS.iload X18.here hx rfl (hb hby at_82) rfl (q))))) ?_
    obtain ⟨r19, hr19⟩ : ∃ z : Int32, z = (own_f_ref c0 c1 c2 c3 ((p4 &&& (7 : Int32)) - (2 : Int32))) := ⟨_, rfl⟩
    have K19 : own_Bk l room_1 p e below s #[(.int p0), (.int p1), (.int p2), (.int p3), (.int p4), (.int p5)] (⟨"com/example/encon/encon/UrlSyntaxUserInfoMayEndAfterPinLaw", "reference", "([CI)Z"⟩ : MethodName) 1 T16.heap #[(.ref b1), (.int ((p4 &&& (7 : Int32)) - (2 : Int32)))] 0 0 (fun v h L => v = some (.int r19) ∧ L = [] ∧ h = T16.heap) := backOf (R := room_1) (W := 1) (Q := (fun v h L => v = some (.int r19) ∧ L = [] ∧ h = T16.heap)) (rm := ({ frames := 1, cells := 0, slots := 0, locals := 14 } : Room)) (own_rm_ref l Z a0 hw [] b1 k1 c0 c1 c2 c3 ((p4 &&& (7 : Int32)) - (2 : Int32)) (.int (0 : Int32)) r19 T16.heap ((V13.ext E15).keep K16 (ninS (Nat.ne_of_lt (Nat.lt_of_lt_of_eq (Nat.lt_of_lt_of_le V1.lt (Nat.le_trans (Nat.le_trans (Nat.le_trans (Keep.of_wr W4).1 (Keep.of_wr W7).1) (Keep.of_wr W10).1) (Keep.of_wr W13).1)) g15.symm)) nin0)) (by rw [hr19])) hZ (hw _ (List.mem_of_getElem? (i := 77) rfl)) (hw _ (List.mem_of_getElem? (i := 3) rfl)) (by decide) (by decide)
    obtain ⟨T20, X20, e20, st20⟩ := own_pure (own_cS X18 hx hZ hown (hw _ (List.mem_of_getElem? (i := 75) rfl)) (hw _ (List.mem_of_getElem? (i := 76) rfl)) (hw _ (List.mem_of_getElem? (i := 3) rfl)) (hw _ (List.mem_of_getElem? (i := 77) rfl)) (by decide) e18 (h := T16.heap) (argsL := [(.ref b1), (.int ((p4 &&& (7 : Int32)) - (2 : Int32)))]) (rest := [(.int r17)]) K19 (pc := 84) (Ls := #[.val (.int p0), .val (.int p1), .val (.int p2), .val (.int p3), .val (.int p4), .val (.int p5), .val (.ref b1), .val (.int ((p4 &&& (7 : Int32)) - (2 : Int32))), .val (.ref b15), .val (.int r17)]) (by rw [hml]; rfl) (lenOf own_pd10 rfl) rfl (Nat.le_of_eq rfl) (hb hby at_84) (by decide) (by decide))
    refine own_st (g' := (mkF m 87 #[.val (.int p0), .val (.int p1), .val (.int p2), .val (.int p3), .val (.int p4), .val (.int p5), .val (.ref b1), .val (.int ((p4 &&& (7 : Int32)) - (2 : Int32))), .val (.ref b15), .val (.int r17)] [(.int r19), (.int r17)])) st20 ?_
    refine own_st (g' := (mkF m 95 #[.val (.int p0), .val (.int p1), .val (.int p2), .val (.int p3), .val (.int p4), .val (.int p5), .val (.ref b1), .val (.int ((p4 &&& (7 : Int32)) - (2 : Int32))), .val (.ref b15), .val (.int r17)] [(.int (1 : Int32))])) (fun _ q => XS.icmpNo X20.here hx rfl (hb hby at_87) rfl (teq (by rw [hr17, hr19]; exact own_plain c0 c1 c2 c3 ((p4 &&& (7 : Int32)) - (2 : Int32)) rg0 rg1 rg2 rg3)).2 (XS.iconst X20.here hx rfl (hb hby at_90) (XS.goto X20.here hx rfl (pc0 := 91) (pc' := 95) rfl (hb hby at_91) (by decide) (by decide) (q)))) ?_
    exact own_goN X20 hlk hx (t := .boolean) (by simp) Bd.returns (hb hby at_95) ⟨rfl, N16⟩ (by decide) (by decide)
  · -- not: (p5 &&& (1 : Int32)) = (0 : Int32)
    refine own_st (g' := (mkF m 58 #[.val (.int p0), .val (.int p1), .val (.int p2), .val (.int p3), .val (.int p4), .val (.int p5), .val (.ref b1), .val (.int p4), .unset, .unset] [])) (fun _ q => XS.ifNo X13.here hx rfl (hb hby at_41) rfl ((if0 _ _).trans (feq hc14).1) (XS.iload X13.here hx rfl (hb hby at_44) rfl (XS.goto X13.here hx rfl (pc0 := 46) (pc' := 56) rfl (hb hby at_46) (by decide) (by decide) (XS.istore X13.here hx rfl (hb hby at_56) rfl (l' := #[.val (.int p0), .val (.int p1), .val (.int p2), .val (.int p3), .val (.int p4), .val (.int p5), .val (.ref b1), .val (.int p4), .unset, .unset]) rfl (q))))) ?_
    obtain ⟨T21, h21, X21, e21, E21, A21, D21, U21, st21⟩ := newO X13 hx hZ hown (hw _ (List.mem_of_getElem? (i := 5) rfl)) (hw _ (List.mem_of_getElem? (i := 6) rfl)) (hw _ (List.mem_of_getElem? (i := 7) rfl)) e13 (g := (mkF m 58 #[.val (.int p0), .val (.int p1), .val (.int p2), .val (.int p3), .val (.int p4), .val (.int p5), .val (.ref b1), .val (.int p4), .unset, .unset] [])) rfl (hb hby at_58) (by decide) (by decide)
    obtain ⟨b21, g21⟩ : ∃ z, z = h13.size := ⟨_, rfl⟩
    rw [← g21] at A21 D21 U21 st21
    have F21_coder : Fld Z h21 b21 "java/lang/String" "coder" "B" (.int (0 : Int32)) := D21 (Or.inr (hw _ (List.mem_of_getElem? (i := 31) rfl))) (ty := .byte) (by decide)
    have F21_value : Fld Z h21 b21 "java/lang/String" "value" "[B" .null := D21 (Or.inr (hw _ (List.mem_of_getElem? (i := 33) rfl))) (ty := (.array .byte)) (by decide)
    refine own_st (g' := (mkF m 61 #[.val (.int p0), .val (.int p1), .val (.int p2), .val (.int p3), .val (.int p4), .val (.int p5), .val (.ref b1), .val (.int p4), .unset, .unset] [(.ref b21)])) st21 ?_
    refine own_st (g' := (mkF m 64 #[.val (.int p0), .val (.int p1), .val (.int p2), .val (.int p3), .val (.int p4), .val (.int p5), .val (.ref b1), .val (.int p4), .unset, .unset] [(.ref b1), (.ref b21), (.ref b21)])) (fun _ q => XS.dup X21.here hx rfl (hb hby at_61) rfl rfl (XS.aload X21.here hx rfl (hb hby at_62) rfl rfl (q))) ?_
    obtain ⟨_, L22, T22, X22, ⟨rfl, N22q, K22, E22, C22, t22, kb22, u22, v22, w22, F22, A22⟩, st22⟩ := own_cI X21 hx hZ rfl hown (hw _ (List.mem_of_getElem? (i := 8) rfl)) (hw _ (List.mem_of_getElem? (i := 9) rfl)) (hw _ (List.mem_of_getElem? (i := 10) rfl)) (by decide) e21 (h := h21) (b := b21) (argsL := [(.ref b1)]) (rest := [(.ref b21)]) (StrChars.Road.backV (W := 1) hZ hws (kI := 4) (hw _ (List.mem_of_getElem? (i := 6) rfl)) (cs := ([c0, c1, c2, c3] : List Int32)) (bs := (([c0, c1, c2, c3] : List Int32)).map (fun c => c.toInt8.toInt32)) (n := 4) (n0 := n0) (Nat.le_trans (Nat.le_trans Z0 (Nat.le_trans (Nat.le_trans (Nat.le_trans (Nat.le_trans E1.1 (Keep.of_wr W4).1) (Keep.of_wr W7).1) (Keep.of_wr W10).1) (Keep.of_wr W13).1)) (Nat.le_of_eq g21.symm)) (Nat.le_trans Z0 (Nat.le_trans (Nat.le_trans (Nat.le_trans (Nat.le_trans (Nat.le_trans E1.1 (Keep.of_wr W4).1) (Keep.of_wr W7).1) (Keep.of_wr W10).1) (Keep.of_wr W13).1) E21.1)) A21 F21_value F21_coder (V13.ext E21) (O.ext ((((((X00.ext E1).wr W4 (Nat.le_trans Z0 (Nat.le_of_eq g1.symm))).wr W7 (Nat.le_trans Z0 (Nat.le_of_eq g1.symm))).wr W10 (Nat.le_trans Z0 (Nat.le_of_eq g1.symm))).wr W13 (Nat.le_trans Z0 (Nat.le_of_eq g1.symm))).ext E21).2) hz rfl rfl (by decide) (by decide) hp rfl (by decide) (by decide)) (pc := 64) (Ls := #[.val (.int p0), .val (.int p1), .val (.int p2), .val (.int p3), .val (.int p4), .val (.int p5), .val (.ref b1), .val (.int p4), .unset, .unset]) (by rw [hml]; rfl) (lenOf own_pd8 rfl) rfl (Nat.le_of_eq rfl) (hb hby at_64) (by decide) (by decide)
    refine own_st (g' := (mkF m 67 #[.val (.int p0), .val (.int p1), .val (.int p2), .val (.int p3), .val (.int p4), .val (.int p5), .val (.ref b1), .val (.int p4), .unset, .unset] [(.ref b21)])) st22 ?_
    have N22 := Fr.app N13 N22q
    refine own_st (g' := (mkF m 73 #[.val (.int p0), .val (.int p1), .val (.int p2), .val (.int p3), .val (.int p4), .val (.int p5), .val (.ref b1), .val (.int p4), .val (.ref b21), .unset] [(.int p4), (.ref b21)])) (fun _ q => XS.astore X22.here hx rfl (hb hby at_67) rfl rfl (l' := #[.val (.int p0), .val (.int p1), .val (.int p2), .val (.int p3), .val (.int p4), .val (.int p5), .val (.ref b1), .val (.int p4), .val (.ref b21), .unset]) rfl (XS.aload X22.here hx rfl (hb hby at_69) rfl rfl (XS.iload X22.here hx rfl (hb hby at_71) rfl (q)))) ?_
    obtain ⟨r23, hr23⟩ : ∃ z : Int32, z = (own_f_user (([c0, c1, c2, c3] : List Int32).map (fun c => c.toInt8.toInt32)) (4 : Int32) p4) := ⟨_, rfl⟩
    have K23 : own_Bk l room_1 p e below s #[(.int p0), (.int p1), (.int p2), (.int p3), (.int p4), (.int p5)] (⟨"com/example/encon/encon/UrlSyntax", "userInfoMayEndAfter", "(Ljava/lang/String;I)Z"⟩ : MethodName) 0 T22.heap #[(.ref b21), (.int p4)] 0 0 (fun v h L => v = some (.int r23) ∧ L = [] ∧ h = T22.heap) := backOf (R := room_1) (W := 0) (Q := (fun v h L => v = some (.int r23) ∧ L = [] ∧ h = T22.heap)) (rm := ({ frames := 3, cells := 0, slots := 0, locals := 46 } : Room)) (own_rm_user l Z a0 hw [] b21 t22 kb22 (([c0, c1, c2, c3] : List Int32).map (fun c => c.toInt8.toInt32)) (4 : Int32) G1 p4 r23 T22.heap (O.ext (((((((X00.ext E1).wr W4 (Nat.le_trans Z0 (Nat.le_of_eq g1.symm))).wr W7 (Nat.le_trans Z0 (Nat.le_of_eq g1.symm))).wr W10 (Nat.le_trans Z0 (Nat.le_of_eq g1.symm))).wr W13 (Nat.le_trans Z0 (Nat.le_of_eq g1.symm))).ext E21).keep K22 (allS (Nat.le_trans (Nat.le_trans Z0 (Nat.le_trans (Nat.le_trans (Nat.le_trans (Nat.le_trans E1.1 (Keep.of_wr W4).1) (Keep.of_wr W7).1) (Keep.of_wr W10).1) (Keep.of_wr W13).1)) (Nat.le_of_eq g21.symm)) all0)).2) hz C22 E22 F22 A22 (show (4 : Int32) = Int32.ofNat 4 from rfl) (show 4 < 2 ^ 31 from by decide) (by rw [hr23])) hZ (hw _ (List.mem_of_getElem? (i := 37) rfl)) (hw _ (List.mem_of_getElem? (i := 36) rfl)) (by decide) (by decide)
    obtain ⟨T24, X24, e24, st24⟩ := own_pure (own_cS X22 hx hZ hown (hw _ (List.mem_of_getElem? (i := 34) rfl)) (hw _ (List.mem_of_getElem? (i := 35) rfl)) (hw _ (List.mem_of_getElem? (i := 36) rfl)) (hw _ (List.mem_of_getElem? (i := 37) rfl)) (by decide) rfl (h := T22.heap) (argsL := [(.ref b21), (.int p4)]) (rest := []) K23 (pc := 73) (Ls := #[.val (.int p0), .val (.int p1), .val (.int p2), .val (.int p3), .val (.int p4), .val (.int p5), .val (.ref b1), .val (.int p4), .val (.ref b21), .unset]) (by rw [hml]; rfl) (lenOf own_pd9 rfl) rfl (Nat.le_of_eq rfl) (hb hby at_73) (by decide) (by decide))
    refine own_st (g' := (mkF m 76 #[.val (.int p0), .val (.int p1), .val (.int p2), .val (.int p3), .val (.int p4), .val (.int p5), .val (.ref b1), .val (.int p4), .val (.ref b21), .unset] [(.int r23)])) st24 ?_
    refine own_st (g' := (mkF m 84 #[.val (.int p0), .val (.int p1), .val (.int p2), .val (.int p3), .val (.int p4), .val (.int p5), .val (.ref b1), .val (.int p4), .val (.ref b21), .val (.int r23)] [(.int p4), (.ref b1), (.int r23)])) (fun _ q => XS.istore X24.here hx rfl (hb hby at_76) rfl (l' := #[.val (.int p0), .val (.int p1), .val (.int p2), .val (.int p3), .val (.int p4), .val (.int p5), .val (.ref b1), .val (.int p4), .val (.ref b21), .val (.int r23)]) rfl (XS.iload X24.here hx rfl (hb hby at_78) rfl (XS.aload X24.here hx rfl (hb hby at_80) rfl rfl (XS.iload X24.here hx rfl (hb hby at_82) rfl (q))))) ?_
    obtain ⟨r25, hr25⟩ : ∃ z : Int32, z = (own_f_ref c0 c1 c2 c3 p4) := ⟨_, rfl⟩
    have K25 : own_Bk l room_1 p e below s #[(.int p0), (.int p1), (.int p2), (.int p3), (.int p4), (.int p5)] (⟨"com/example/encon/encon/UrlSyntaxUserInfoMayEndAfterPinLaw", "reference", "([CI)Z"⟩ : MethodName) 1 T22.heap #[(.ref b1), (.int p4)] 0 0 (fun v h L => v = some (.int r25) ∧ L = [] ∧ h = T22.heap) := backOf (R := room_1) (W := 1) (Q := (fun v h L => v = some (.int r25) ∧ L = [] ∧ h = T22.heap)) (rm := ({ frames := 1, cells := 0, slots := 0, locals := 14 } : Room)) (own_rm_ref l Z a0 hw [] b1 k1 c0 c1 c2 c3 p4 (.int (0 : Int32)) r25 T22.heap ((V13.ext E21).keep K22 (ninS (Nat.ne_of_lt (Nat.lt_of_lt_of_eq (Nat.lt_of_lt_of_le V1.lt (Nat.le_trans (Nat.le_trans (Nat.le_trans (Keep.of_wr W4).1 (Keep.of_wr W7).1) (Keep.of_wr W10).1) (Keep.of_wr W13).1)) g21.symm)) nin0)) (by rw [hr25])) hZ (hw _ (List.mem_of_getElem? (i := 77) rfl)) (hw _ (List.mem_of_getElem? (i := 3) rfl)) (by decide) (by decide)
    obtain ⟨T26, X26, e26, st26⟩ := own_pure (own_cS X24 hx hZ hown (hw _ (List.mem_of_getElem? (i := 75) rfl)) (hw _ (List.mem_of_getElem? (i := 76) rfl)) (hw _ (List.mem_of_getElem? (i := 3) rfl)) (hw _ (List.mem_of_getElem? (i := 77) rfl)) (by decide) e24 (h := T22.heap) (argsL := [(.ref b1), (.int p4)]) (rest := [(.int r23)]) K25 (pc := 84) (Ls := #[.val (.int p0), .val (.int p1), .val (.int p2), .val (.int p3), .val (.int p4), .val (.int p5), .val (.ref b1), .val (.int p4), .val (.ref b21), .val (.int r23)]) (by rw [hml]; rfl) (lenOf own_pd10 rfl) rfl (Nat.le_of_eq rfl) (hb hby at_84) (by decide) (by decide))
    refine own_st (g' := (mkF m 87 #[.val (.int p0), .val (.int p1), .val (.int p2), .val (.int p3), .val (.int p4), .val (.int p5), .val (.ref b1), .val (.int p4), .val (.ref b21), .val (.int r23)] [(.int r25), (.int r23)])) st26 ?_
    refine own_st (g' := (mkF m 95 #[.val (.int p0), .val (.int p1), .val (.int p2), .val (.int p3), .val (.int p4), .val (.int p5), .val (.ref b1), .val (.int p4), .val (.ref b21), .val (.int r23)] [(.int (1 : Int32))])) (fun _ q => XS.icmpNo X26.here hx rfl (hb hby at_87) rfl (teq (by rw [hr23, hr25]; exact own_plain c0 c1 c2 c3 p4 rg0 rg1 rg2 rg3)).2 (XS.iconst X26.here hx rfl (hb hby at_90) (XS.goto X26.here hx rfl (pc0 := 91) (pc' := 95) rfl (hb hby at_91) (by decide) (by decide) (q)))) ?_
    exact own_goN X26 hlk hx (t := .boolean) (by simp) Bd.returns (hb hby at_95) ⟨rfl, N22⟩ (by decide) (by decide)
set_option maxRecDepth 65536 in
set_option maxHeartbeats 40000000 in
theorem comes_1 {Post : Tables → Env → Array Value → State → Outcome → State → Prop} (hpost : ∀ tb e args s v u, (limb_1_1.after args s (.returned v) u = true ∧ limb_1_2.after args s (.returned v) u = true ∧ True) → FrameEnd s (.returned v) u (Jvm.fieldLocs frame_1_writes args s ++ Jvm.arrayLocs frame_1_arrays args s ++ Jvm.staticLocs frame_1_statics s) 16 128 → Post tb e args s (.returned v) u) :
    ArmFor flags0 classFile x code maxLocals ret World_1 tables_1 room_1 Calls_1 rest_1 Pre_1 Post := by
  intro l hfl _ _ p e ha hc hk s m args below hf hA hF happ hP
  obtain ⟨hcalls, hrest, hpre⟩ := hP
  obtain ⟨-, -, -, hnamed, -, -, -, hat⟩ := (Spec.applies_iff hf).mp happ
  obtain ⟨hg, hn⟩ := and_e (Cond.before_iff.mp (show (Jvm.Cond.and given_1 narrow_1).before args s = true from hpre))
  obtain ⟨hct, hi0⟩ := and_e hg
  obtain ⟨ha0, hi1⟩ := and_e hi0
  obtain ⟨ha1, hi2⟩ := and_e hi1
  obtain ⟨ha2, hi3⟩ := and_e hi2
  obtain ⟨ha3, hi4⟩ := and_e hi3
  obtain ⟨ha4, hi5⟩ := and_e hi4
  have ha5 := hi5
  obtain ⟨w0, w1, w2, w3, w4, w5, rfl⟩ : ∃ w0 w1 w2 w3 w4 w5 : Value, args = #[w0, w1, w2, w3, w4, w5] := by
    have hs : args.size = 6 := by simpa [Cond.value, given_1] using hct
    obtain ⟨L⟩ := args
    match L, hs with
    | [w0, w1, w2, w3, w4, w5], _ => exact ⟨w0, w1, w2, w3, w4, w5, rfl⟩
  have hw := fun d (hd : d ∈ tables_1) => atoms_spec (ws := Jvm.Cond.code x code maxLocals ret :: tables_1) hat d (List.mem_cons_of_mem _ hd)
  obtain ⟨hsets, hown0⟩ := atoms_of _ (rest_1_c_eq ▸ (show rest_1_c.before _ s = true from hrest))
  have hr0 := Cond.before_iff.mp hown0
  have hfit : Fit s := fun {y c} hc i hi => by
    obtain ⟨ha, rfl⟩ := Array.getElem?_eq_some_iff.mp hc
    have q := List.all_eq_true.mp ((Array.all_eq_true_iff_forall_mem.mp hF) _ (Array.getElem_mem ha)) i (List.mem_range.mpr hi)
    simpa [Array.getElem?_eq_getElem hi] using q
  obtain ⟨i0, ee0⟩ := is_v ha0
  obtain rfl : w0 = (.int i0) := Option.some.inj ee0
  obtain ⟨i1, ee1⟩ := is_v ha1
  obtain rfl : w1 = (.int i1) := Option.some.inj ee1
  obtain ⟨i2, ee2⟩ := is_v ha2
  obtain rfl : w2 = (.int i2) := Option.some.inj ee2
  obtain ⟨i3, ee3⟩ := is_v ha3
  obtain rfl : w3 = (.int i3) := Option.some.inj ee3
  obtain ⟨i4, ee4⟩ := is_v ha4
  obtain rfl : w4 = (.int i4) := Option.some.inj ee4
  obtain ⟨i5, ee5⟩ := is_v ha5
  obtain rfl : w5 = (.int i5) := Option.some.inj ee5
  have n5 := not_v (Cond.before_iff.mp (hsets _ (List.mem_of_getElem? (i := 2) rfl)))
  obtain ⟨G1, eG1⟩ := is_v (Cond.before_iff.mp (hsets _ (List.mem_of_getElem? (i := 1) rfl)))
  have SG1 : Sta s s.heap "java/lang/String" "COMPACT_STRINGS" "Z" (.int G1) := Sta.start eG1 (Or.inl (hsets _ (List.mem_of_getElem? (i := 0) rfl)))
  have zG1 : ¬ (G1 = (0 : Int32)) := gotF (Cond.eq_ints eG1 (Term.int_eval (0))) n5
  obtain ⟨n, o, h1, h2, h3, _, L, rfl, ⟨rfl, N⟩, hq⟩ := own_rm_law l s _ hw tables_1 i0 i1 i2 i3 i4 i5 G1 s.heap.size s.heap (Nat.le_refl _) SG1 (Old.start s) zG1 p e ha hc hk s m _ below hf ((Spec.applies_iff_loose hf).mp happ).1 ⟨rfl, State.Warmed39.refl s, rfl⟩ trivial
  refine ⟨n, _, h1, h2, h3, hpost _ _ _ _ _ _ ⟨Cond.after_iff.mpr rfl, Cond.after_iff.mpr (eq_i res_at (Term.int_eval (1)) rfl), trivial⟩ ⟨hq.1, hq.2.1, (hq.2.2.sift fun y hy => Or.inr (N y hy)).mono (by decide) (by decide)⟩⟩
theorem main_1_1 : Claimed_1_1 := comes_1 fun _ _ _ _ _ _ h hF => ⟨h.1, hF⟩
theorem main_1_2 : Claimed_1_2 := comes_1 fun _ _ _ _ _ _ h hF => ⟨h.2.1, hF⟩
end Jvm.Pilot.@@N@@
namespace Jvm.Pilot.@@N@@
open Jvm Jvm.ClassFile Sem Op Lib Jvm.Free Jvm.Stand Jvm.Pilot.@@N@@.Jvm.D
/-! MADE BY PROGRAM (witnessworld.py) out of the Statement's table words and the real class files: 21 classes; the members and pool entries that the words name. The judged class is class 1, her method 4. -/
namespace start1
open Jvm.ClassFile
def u (s : String) : CpInfo := .utf8 (stringToUtf16 s)
/-- a pool by its gaps: so many unusable entries, then the entry; so many at the end -/
def gap : Nat → List CpInfo → List CpInfo
  | 0, r => r
  | n + 1, r => .unusable :: gap n r
def poolList (es : List (Nat × CpInfo)) (last : Nat) : List CpInfo := es.foldr (fun e r => gap e.1 (e.2 :: r)) (gap last [])
def pool (es : List (Nat × CpInfo)) (last : Nat) : Array CpInfo := ⟨poolList es last⟩
def fileOf (pool : Array CpInfo) (this : Nat) (attrs : Array Attribute := #[]) (ms : Array MethodInfo := #[]) (fl : Nat := 33) (sup : Nat := 0) (ifs : Array Nat := #[]) (fds : Array FieldInfo := #[]) : ClassFile where
  minorVersion := 0
  majorVersion := 65
  constantPool := pool
  accessFlags := fl
  thisClass := this
  superClass := sup
  interfaces := ifs
  fields := fds
  methods := ms
  attributes := attrs
def plain (name : String) (sup : Option ClassId) : Class where
  name := name
  kind := .ordinary
  loader := none
  accessFlags := 33
  super := sup
  interfaces := #[]
  cf := none
  fields := #[]
  methods := #[]
  instanceTypes := #[]
  staticTypes := #[]
  resolved := #[]
  callSites := []
  init := .initialized
  statics := none
  mirror := none

def pool0 : Array CpInfo := pool [(5, u "<init>"), (0, u "()V"), (1, .class_ 10), (1, u "java/lang/Object")] 113

def k0c0 : Code := { maxStack := 0, maxLocals := 1, code := object_method_1_code, exceptionTable := #[], attributes := #[] }
def k0m0 : Method := { name := "<init>", desc := "()V", sig := { parameters := [], returnType := none }, accessFlags := 1, code := some k0c0 }
/-- java/lang/Object -/
def k0 : Class := { plain "java/lang/Object" none with
  accessFlags := 33
  interfaces := #[]
  cf := some (fileOf pool0 8 #[] #[{ accessFlags := 1, nameIndex := 5, descriptorIndex := 6, attributes := #[] }] 33 0 #[] #[])
  fields := #[]
  methods := #[k0m0]
  instanceTypes := #[]
  staticTypes := #[]
  resolved := Array.replicate 124 none
  statics := none }

def pool1 : Array CpInfo := pool [(2, .class_ 4), (1, u "java/lang/Object"), (0, u "<init>"), (0, u "()V"), (0, .methodref 8 9), (0, .class_ 10), (0, .nameAndType 11 12), (0, u "com/example/encon/encon/UrlSyntaxUserInfoMayEndAfterPinLaw"), (0, u "hit"), (0, u "([CII)I"), (0, .methodref 8 14), (0, .nameAndType 15 16), (0, u "draw"), (0, u "(I)C"), (0, .class_ 18), (0, u "java/lang/String"), (0, .methodref 17 20), (0, .nameAndType 5 21), (0, u "([C)V"), (0, .methodref 23 24), (0, .class_ 25), (0, .nameAndType 26 27), (0, u "com/example/encon/encon/UrlSyntax"), (0, u "userInfoMayEndAfter"), (0, u "(Ljava/lang/String;I)Z"), (0, .methodref 8 29), (0, .nameAndType 30 31), (0, u "reference"), (0, u "([CI)Z"), (3, u "law"), (0, u "(IIIIII)Z")] 4

def k1m0 : Method := { name := "<init>", desc := "()V", sig := { parameters := [], returnType := none }, accessFlags := 2, code := none }
def k1c1 : Code := { maxStack := 2, maxLocals := 2, code := method_2_code, exceptionTable := #[], attributes := #[] }
def k1m1 : Method := { name := "draw", desc := "(I)C", sig := { parameters := [.int], returnType := some .char }, accessFlags := 10, code := some k1c1 }
def k1c2 : Code := { maxStack := 2, maxLocals := 3, code := method_3_code, exceptionTable := #[], attributes := #[] }
def k1m2 : Method := { name := "hit", desc := "([CII)I", sig := { parameters := [(.array .char), .int, .int], returnType := some .int }, accessFlags := 10, code := some k1c2 }
def k1c3 : Code := { maxStack := 3, maxLocals := 3, code := method_4_code, exceptionTable := #[], attributes := #[] }
def k1m3 : Method := { name := "reference", desc := "([CI)Z", sig := { parameters := [(.array .char), .int], returnType := some .boolean }, accessFlags := 10, code := some k1c3 }
def k1c4 : Code := { maxStack := 3, maxLocals := 10, code := code, exceptionTable := #[], attributes := #[] }
def k1m4 : Method := { name := "law", desc := "(IIIIII)Z", sig := { parameters := [.int, .int, .int, .int, .int, .int], returnType := some .boolean }, accessFlags := 9, code := some k1c4 }
/-- com/example/encon/encon/UrlSyntaxUserInfoMayEndAfterPinLaw -/
def k1 : Class := { plain "com/example/encon/encon/UrlSyntaxUserInfoMayEndAfterPinLaw" (some 0) with
  accessFlags := 49
  interfaces := #[]
  cf := some (fileOf pool1 8 #[] #[{ accessFlags := 2, nameIndex := 5, descriptorIndex := 6, attributes := #[] }, { accessFlags := 10, nameIndex := 15, descriptorIndex := 16, attributes := #[] }, { accessFlags := 10, nameIndex := 11, descriptorIndex := 12, attributes := #[] }, { accessFlags := 10, nameIndex := 30, descriptorIndex := 31, attributes := #[] }, { accessFlags := 9, nameIndex := 35, descriptorIndex := 36, attributes := #[] }] 49 2 #[] #[])
  fields := #[]
  methods := #[k1m0, k1m1, k1m2, k1m3, k1m4]
  instanceTypes := #[]
  staticTypes := #[]
  resolved := Array.replicate 41 none
  statics := none }

def pool2 : Array CpInfo := pool [(1, .class_ 2), (0, u "java/io/Serializable"), (0, .class_ 4), (0, u "java/lang/Object")] 2

/-- java/io/Serializable -/
def k2 : Class := { plain "java/io/Serializable" (some 0) with
  accessFlags := 1537
  interfaces := #[]
  cf := some (fileOf pool2 1 #[] #[] 1537 3 #[] #[])
  fields := #[]
  methods := #[]
  instanceTypes := #[]
  staticTypes := #[]
  resolved := Array.replicate 7 none
  statics := none }

def pool3 : Array CpInfo := pool [(1, .class_ 2), (0, u "java/lang/Comparable"), (0, .class_ 4), (0, u "java/lang/Object")] 7

/-- java/lang/Comparable -/
def k3 : Class := { plain "java/lang/Comparable" (some 0) with
  accessFlags := 1537
  interfaces := #[]
  cf := some (fileOf pool3 1 #[] #[] 1537 3 #[] #[])
  fields := #[]
  methods := #[]
  instanceTypes := #[]
  staticTypes := #[]
  resolved := Array.replicate 12 none
  statics := none }

def pool4 : Array CpInfo := pool [(2, .class_ 4), (1, u "java/lang/CharSequence"), (42, .class_ 48), (0, u "java/lang/CharSequence$1CodePointIterator"), (10, .class_ 60), (0, u "java/lang/CharSequence$1CharIterator"), (5, .class_ 67), (0, u "java/lang/Object")] 63

/-- java/lang/CharSequence -/
def k4 : Class := { plain "java/lang/CharSequence" (some 0) with
  accessFlags := 1537
  interfaces := #[]
  cf := some (fileOf pool4 2 #[.nestMembers #[47, 59]] #[] 1537 66 #[] #[])
  fields := #[]
  methods := #[]
  instanceTypes := #[]
  staticTypes := #[]
  resolved := Array.replicate 131 none
  statics := none }

def pool5 : Array CpInfo := pool [(1, .class_ 2), (0, u "java/lang/constant/Constable"), (0, .class_ 4), (0, u "java/lang/Object")] 6

/-- java/lang/constant/Constable -/
def k5 : Class := { plain "java/lang/constant/Constable" (some 0) with
  accessFlags := 1537
  interfaces := #[]
  cf := some (fileOf pool5 1 #[] #[] 1537 3 #[] #[])
  fields := #[]
  methods := #[]
  instanceTypes := #[]
  staticTypes := #[]
  resolved := Array.replicate 11 none
  statics := none }

def pool6 : Array CpInfo := pool [(1, .class_ 2), (0, u "java/lang/constant/ConstantDesc"), (0, .class_ 4), (0, u "java/lang/Object")] 32

/-- java/lang/constant/ConstantDesc -/
def k6 : Class := { plain "java/lang/constant/ConstantDesc" (some 0) with
  accessFlags := 1537
  interfaces := #[]
  cf := some (fileOf pool6 1 #[] #[] 1537 3 #[] #[])
  fields := #[]
  methods := #[]
  instanceTypes := #[]
  staticTypes := #[]
  resolved := Array.replicate 37 none
  statics := none }

def pool7 : Array CpInfo := pool [(1, .methodref 2 3), (0, .class_ 4), (0, .nameAndType 5 6), (0, u "java/lang/Object"), (0, u "<init>"), (0, u "()V"), (2, .fieldref 10 11), (0, .class_ 12), (0, .nameAndType 13 14), (0, u "java/lang/String"), (0, u "value"), (0, u "[B"), (0, .fieldref 10 16), (0, .nameAndType 17 18), (0, u "coder"), (0, u "B"), (2, u "hash"), (0, u "I"), (2, u "hashIsZero"), (0, u "Z"), (0, .methodref 10 28), (0, .nameAndType 5 29), (0, u "([CIILjava/lang/Void;)V"), (8, .fieldref 10 39), (0, .nameAndType 40 26), (0, u "COMPACT_STRINGS"), (1, .class_ 44), (1, u "java/lang/StringUTF16"), (0, u "compress"), (1, .methodref 42 48), (0, .nameAndType 49 50), (0, u "coderFromArrayLen"), (0, u "([BI)B"), (56, .class_ 109), (1, u "java/lang/StringLatin1"), (32, u "()Z"), (34, .methodref 42 178), (0, .nameAndType 45 179), (0, u "([CII)[B"), (154, u "()I"), (0, .methodref 10 336), (0, .nameAndType 17 337), (0, u "()B"), (154, .methodref 10 493), (0, .nameAndType 494 142), (0, u "isLatin1"), (10, .methodref 10 506), (0, .nameAndType 507 334), (0, u "length"), (67, .class_ 576), (0, u "java/lang/CharSequence"), (22, u "CASE_INSENSITIVE_ORDER"), (0, u "Ljava/util/Comparator;"), (34, u "indexOf"), (0, u "(II)I"), (0, .methodref 107 638), (0, .nameAndType 635 639), (0, u "([BIII)I"), (370, u "([C)V"), (90, u "serialPersistentFields"), (0, u "[Ljava/io/ObjectStreamField;"), (0, .class_ 1104), (0, u "java/lang/String$CaseInsensitiveComparator"), (1, .class_ 1107), (0, u "java/io/Serializable"), (0, .class_ 1109), (0, u "java/lang/Comparable"), (0, .class_ 1111), (0, u "java/lang/constant/Constable"), (0, .class_ 1113), (0, u "java/lang/constant/ConstantDesc"), (2, u "serialVersionUID"), (0, u "J"), (3, u "REPL"), (0, u "C"), (2, u "LATIN1"), (1, u "UTF16")] 323

def k7m0 : Method := { name := "<init>", desc := "()V", sig := { parameters := [], returnType := none }, accessFlags := 1, code := none }
def k7c1 : Code := { maxStack := 5, maxLocals := 2, code := jdk_42_method_3_code, exceptionTable := #[], attributes := #[] }
def k7m1 : Method := { name := "<init>", desc := "([C)V", sig := { parameters := [(.array .char)], returnType := none }, accessFlags := 1, code := some k7c1 }
def k7c2 : Code := { maxStack := 2, maxLocals := 1, code := jdk_42_method_54_code, exceptionTable := #[], attributes := #[] }
def k7m2 : Method := { name := "length", desc := "()I", sig := { parameters := [], returnType := some .int }, accessFlags := 1, code := some k7c2 }
def k7c3 : Code := { maxStack := 4, maxLocals := 3, code := jdk_42_method_80_code, exceptionTable := #[], attributes := #[] }
def k7m3 : Method := { name := "indexOf", desc := "(II)I", sig := { parameters := [.int, .int], returnType := some .int }, accessFlags := 1, code := some k7c3 }
def k7c4 : Code := { maxStack := 4, maxLocals := 6, code := jdk_42_method_149_code, exceptionTable := #[], attributes := #[] }
def k7m4 : Method := { name := "<init>", desc := "([CIILjava/lang/Void;)V", sig := { parameters := [(.array .char), .int, .int, (.object "java/lang/Void")], returnType := none }, accessFlags := 2, code := some k7c4 }
def k7c5 : Code := { maxStack := 1, maxLocals := 1, code := jdk_42_method_152_code, exceptionTable := #[], attributes := #[] }
def k7m5 : Method := { name := "coder", desc := "()B", sig := { parameters := [], returnType := some .byte }, accessFlags := 0, code := some k7c5 }
def k7c6 : Code := { maxStack := 1, maxLocals := 1, code := jdk_42_method_154_code, exceptionTable := #[], attributes := #[] }
def k7m6 : Method := { name := "isLatin1", desc := "()Z", sig := { parameters := [], returnType := some .boolean }, accessFlags := 0, code := some k7c6 }
/-- java/lang/String -/
def k7 : Class := { plain "java/lang/String" (some 0) with
  accessFlags := 49
  interfaces := #[2, 3, 4, 5, 6]
  cf := some (fileOf pool7 10 #[.nestMembers #[1103]] #[{ accessFlags := 1, nameIndex := 5, descriptorIndex := 6, attributes := #[] }, { accessFlags := 1, nameIndex := 5, descriptorIndex := 1010, attributes := #[] }, { accessFlags := 1, nameIndex := 507, descriptorIndex := 334, attributes := #[] }, { accessFlags := 1, nameIndex := 635, descriptorIndex := 636, attributes := #[] }, { accessFlags := 2, nameIndex := 5, descriptorIndex := 29, attributes := #[] }, { accessFlags := 0, nameIndex := 17, descriptorIndex := 337, attributes := #[] }, { accessFlags := 0, nameIndex := 494, descriptorIndex := 142, attributes := #[] }] 49 2 #[1106, 1108, 575, 1110, 1112] #[{ accessFlags := 18, nameIndex := 13, descriptorIndex := 14, attributes := #[] }, { accessFlags := 18, nameIndex := 17, descriptorIndex := 18, attributes := #[] }, { accessFlags := 2, nameIndex := 21, descriptorIndex := 22, attributes := #[] }, { accessFlags := 2, nameIndex := 25, descriptorIndex := 26, attributes := #[] }, { accessFlags := 26, nameIndex := 1116, descriptorIndex := 1117, attributes := #[] }, { accessFlags := 24, nameIndex := 40, descriptorIndex := 26, attributes := #[] }, { accessFlags := 26, nameIndex := 1101, descriptorIndex := 1102, attributes := #[] }, { accessFlags := 26, nameIndex := 1121, descriptorIndex := 1122, attributes := #[] }, { accessFlags := 25, nameIndex := 599, descriptorIndex := 600, attributes := #[] }, { accessFlags := 24, nameIndex := 1125, descriptorIndex := 18, attributes := #[] }, { accessFlags := 24, nameIndex := 1127, descriptorIndex := 18, attributes := #[] }])
  fields := #[{ name := "value", type := (.array .byte), accessFlags := 18, slot := 0, constantValue := 0 }, { name := "coder", type := .byte, accessFlags := 18, slot := 1, constantValue := 0 }, { name := "hash", type := .int, accessFlags := 2, slot := 2, constantValue := 0 }, { name := "hashIsZero", type := .boolean, accessFlags := 2, slot := 3, constantValue := 0 }, { name := "serialVersionUID", type := .long, accessFlags := 26, slot := 0, constantValue := 0 }, { name := "COMPACT_STRINGS", type := .boolean, accessFlags := 24, slot := 1, constantValue := 0 }, { name := "serialPersistentFields", type := (.array (.object "java/io/ObjectStreamField")), accessFlags := 26, slot := 2, constantValue := 0 }, { name := "REPL", type := .char, accessFlags := 26, slot := 3, constantValue := 0 }, { name := "CASE_INSENSITIVE_ORDER", type := (.object "java/util/Comparator"), accessFlags := 25, slot := 4, constantValue := 0 }, { name := "LATIN1", type := .byte, accessFlags := 24, slot := 5, constantValue := 0 }, { name := "UTF16", type := .byte, accessFlags := 24, slot := 6, constantValue := 0 }]
  methods := #[k7m0, k7m1, k7m2, k7m3, k7m4, k7m5, k7m6]
  instanceTypes := #[(.array .byte), .byte, .int, .boolean]
  staticTypes := #[.long, .boolean, (.array (.object "java/io/ObjectStreamField")), .char, (.object "java/util/Comparator"), .byte, .byte]
  resolved := Array.replicate 1451 none
  statics := some 0 }

def pool8 : Array CpInfo := pool [(6, .class_ 8), (1, u "java/lang/Object"), (0, u "<init>"), (0, u "()V"), (1, .class_ 14), (1, u "java/lang/StringUTF16"), (31, u "$assertionsDisabled"), (0, u "Z"), (13, u "HI_BYTE_SHIFT"), (0, u "I"), (2, u "LO_BYTE_SHIFT"), (49, .methodref 12 116), (0, .nameAndType 117 118), (0, u "compress"), (0, u "([CI[BII)I"), (3, u "([CII)[B"), (138, u "coderFromArrayLen"), (0, u "([BI)B"), (106, .class_ 371), (1, u "java/lang/StringUTF16$LinesSpliterator"), (58, u "MAX_LENGTH"), (196, .class_ 628), (0, u "java/lang/StringUTF16$CodePointsSpliterator"), (0, .class_ 630), (0, u "java/lang/StringUTF16$CharsSpliterator")] 4

def k8m0 : Method := { name := "<init>", desc := "()V", sig := { parameters := [], returnType := none }, accessFlags := 0, code := none }
def k8c1 : Code := { maxStack := 2, maxLocals := 2, code := jdk_52_method_15_code, exceptionTable := #[], attributes := #[] }
def k8m1 : Method := { name := "coderFromArrayLen", desc := "([BI)B", sig := { parameters := [(.array .byte), .int], returnType := some .byte }, accessFlags := 8, code := some k8c1 }
def k8c2 : Code := { maxStack := 5, maxLocals := 6, code := jdk_52_method_16_code, exceptionTable := #[], attributes := #[] }
def k8m2 : Method := { name := "compress", desc := "([CII)[B", sig := { parameters := [(.array .char), .int, .int], returnType := some (.array .byte) }, accessFlags := 9, code := some k8c2 }
def k8c3 : Code := { maxStack := 3, maxLocals := 7, code := jdk_52_method_21_code, exceptionTable := #[], attributes := #[] }
def k8m3 : Method := { name := "compress", desc := "([CI[BII)I", sig := { parameters := [(.array .char), .int, (.array .byte), .int, .int], returnType := some .int }, accessFlags := 9, code := some k8c3 }
/-- java/lang/StringUTF16 -/
def k8 : Class := { plain "java/lang/StringUTF16" (some 0) with
  accessFlags := 48
  interfaces := #[]
  cf := some (fileOf pool8 12 #[.nestMembers #[627, 629, 369]] #[{ accessFlags := 0, nameIndex := 9, descriptorIndex := 10, attributes := #[] }, { accessFlags := 8, nameIndex := 261, descriptorIndex := 262, attributes := #[] }, { accessFlags := 9, nameIndex := 117, descriptorIndex := 122, attributes := #[] }, { accessFlags := 9, nameIndex := 117, descriptorIndex := 118, attributes := #[] }] 48 6 #[] #[{ accessFlags := 26, nameIndex := 61, descriptorIndex := 62, attributes := #[] }, { accessFlags := 26, nameIndex := 65, descriptorIndex := 62, attributes := #[] }, { accessFlags := 24, nameIndex := 430, descriptorIndex := 62, attributes := #[] }, { accessFlags := 4120, nameIndex := 46, descriptorIndex := 47, attributes := #[] }])
  fields := #[{ name := "HI_BYTE_SHIFT", type := .int, accessFlags := 26, slot := 0, constantValue := 0 }, { name := "LO_BYTE_SHIFT", type := .int, accessFlags := 26, slot := 1, constantValue := 0 }, { name := "MAX_LENGTH", type := .int, accessFlags := 24, slot := 2, constantValue := 0 }, { name := "$assertionsDisabled", type := .boolean, accessFlags := 4120, slot := 3, constantValue := 0 }]
  methods := #[k8m0, k8m1, k8m2, k8m3]
  instanceTypes := #[]
  staticTypes := #[.int, .int, .int, .boolean]
  resolved := Array.replicate 635 none
  statics := none }

def pool9 : Array CpInfo := pool [(2, .class_ 4), (1, u "java/lang/Object"), (0, u "<init>"), (0, u "()V"), (1, .class_ 10), (1, u "com/example/encon/encon/UrlSyntax"), (0, u "USER_INFO_BOUND"), (0, u "Ljava/util/regex/Pattern;"), (17, .class_ 32), (1, u "java/lang/String"), (9, .methodref 30 43), (0, .nameAndType 44 45), (0, u "indexOf"), (0, u "(II)I"), (2, u "SECRET_PARAMETER"), (18, u "SECRET_NAME"), (10, u "SECRET_KEY"), (0, u "Ljava/lang/String;"), (5, u "NAME_CHARACTER"), (8, u "userInfoMayEndAfter"), (0, u "(Ljava/lang/String;I)Z")] 21

def k9m0 : Method := { name := "<init>", desc := "()V", sig := { parameters := [], returnType := none }, accessFlags := 2, code := none }
def k9c1 : Code := { maxStack := 3, maxLocals := 4, code := prog_108_method_3_code, exceptionTable := #[], attributes := #[] }
def k9m1 : Method := { name := "userInfoMayEndAfter", desc := "(Ljava/lang/String;I)Z", sig := { parameters := [(.object "java/lang/String"), .int], returnType := some .boolean }, accessFlags := 8, code := some k9c1 }
/-- com/example/encon/encon/UrlSyntax -/
def k9 : Class := { plain "com/example/encon/encon/UrlSyntax" (some 0) with
  accessFlags := 48
  interfaces := #[]
  cf := some (fileOf pool9 8 #[] #[{ accessFlags := 2, nameIndex := 5, descriptorIndex := 6, attributes := #[] }, { accessFlags := 8, nameIndex := 94, descriptorIndex := 95, attributes := #[] }] 48 2 #[] #[{ accessFlags := 24, nameIndex := 85, descriptorIndex := 79, attributes := #[] }, { accessFlags := 24, nameIndex := 67, descriptorIndex := 12, attributes := #[] }, { accessFlags := 26, nameIndex := 78, descriptorIndex := 79, attributes := #[] }, { accessFlags := 24, nameIndex := 48, descriptorIndex := 12, attributes := #[] }, { accessFlags := 26, nameIndex := 11, descriptorIndex := 12, attributes := #[] }])
  fields := #[{ name := "NAME_CHARACTER", type := (.object "java/lang/String"), accessFlags := 24, slot := 0, constantValue := 0 }, { name := "SECRET_NAME", type := (.object "java/util/regex/Pattern"), accessFlags := 24, slot := 1, constantValue := 0 }, { name := "SECRET_KEY", type := (.object "java/lang/String"), accessFlags := 26, slot := 2, constantValue := 0 }, { name := "SECRET_PARAMETER", type := (.object "java/util/regex/Pattern"), accessFlags := 24, slot := 3, constantValue := 0 }, { name := "USER_INFO_BOUND", type := (.object "java/util/regex/Pattern"), accessFlags := 26, slot := 4, constantValue := 0 }]
  methods := #[k9m0, k9m1]
  instanceTypes := #[]
  staticTypes := #[(.object "java/lang/String"), (.object "java/util/regex/Pattern"), (.object "java/lang/String"), (.object "java/util/regex/Pattern"), (.object "java/util/regex/Pattern")]
  resolved := Array.replicate 117 none
  statics := none }

def pool10 : Array CpInfo := pool [(4, .class_ 6), (1, u "java/lang/Object"), (0, u "<init>"), (0, u "()V"), (5, .class_ 16), (1, u "java/lang/StringLatin1"), (21, .methodref 39 40), (0, .class_ 41), (0, .nameAndType 42 43), (0, u "java/lang/Math"), (0, u "min"), (0, u "(II)I"), (44, .methodref 14 89), (0, .nameAndType 90 91), (0, u "canEncode"), (0, u "(I)Z"), (0, .methodref 39 93), (0, .nameAndType 94 43), (0, u "max"), (0, .methodref 14 96), (0, .nameAndType 97 98), (0, u "indexOfChar"), (0, u "([BIII)I"), (2, u "indexOf"), (19, u "$assertionsDisabled"), (0, u "Z"), (98, .class_ 223), (1, u "java/lang/StringLatin1$LinesSpliterator"), (166, .class_ 391), (0, u "java/lang/StringLatin1$CharsSpliterator")] 3

def k10m0 : Method := { name := "<init>", desc := "()V", sig := { parameters := [], returnType := none }, accessFlags := 0, code := none }
def k10c1 : Code := { maxStack := 2, maxLocals := 1, code := jdk_43_method_4_code, exceptionTable := #[], attributes := #[] }
def k10m1 : Method := { name := "canEncode", desc := "(I)Z", sig := { parameters := [.int], returnType := some .boolean }, accessFlags := 9, code := some k10c1 }
def k10c2 : Code := { maxStack := 4, maxLocals := 4, code := jdk_43_method_22_code, exceptionTable := #[], attributes := #[] }
def k10m2 : Method := { name := "indexOf", desc := "([BIII)I", sig := { parameters := [(.array .byte), .int, .int, .int], returnType := some .int }, accessFlags := 9, code := some k10c2 }
def k10c3 : Code := { maxStack := 2, maxLocals := 6, code := jdk_43_method_23_code, exceptionTable := #[], attributes := #[] }
def k10m3 : Method := { name := "indexOfChar", desc := "([BIII)I", sig := { parameters := [(.array .byte), .int, .int, .int], returnType := some .int }, accessFlags := 10, code := some k10c3 }
/-- java/lang/StringLatin1 -/
def k10 : Class := { plain "java/lang/StringLatin1" (some 0) with
  accessFlags := 48
  interfaces := #[]
  cf := some (fileOf pool10 14 #[.nestMembers #[390, 221]] #[{ accessFlags := 0, nameIndex := 7, descriptorIndex := 8, attributes := #[] }, { accessFlags := 9, nameIndex := 90, descriptorIndex := 91, attributes := #[] }, { accessFlags := 9, nameIndex := 101, descriptorIndex := 98, attributes := #[] }, { accessFlags := 10, nameIndex := 97, descriptorIndex := 98, attributes := #[] }] 48 4 #[] #[{ accessFlags := 4120, nameIndex := 121, descriptorIndex := 122, attributes := #[] }])
  fields := #[{ name := "$assertionsDisabled", type := .boolean, accessFlags := 4120, slot := 0, constantValue := 0 }]
  methods := #[k10m0, k10m1, k10m2, k10m3]
  instanceTypes := #[]
  staticTypes := #[.boolean]
  resolved := Array.replicate 395 none
  statics := none }

def pool11 : Array CpInfo := pool [(1, .class_ 2), (0, u "java/lang/Math"), (1, .class_ 6), (1, u "java/lang/Object"), (0, u "<init>"), (0, u "()V"), (89, .class_ 100), (1, u "java/lang/Math$RandomNumberGeneratorHolder"), (71, u "negativeZeroFloatBits"), (0, u "J"), (2, u "negativeZeroDoubleBits"), (21, u "max"), (2, u "min"), (43, u "$assertionsDisabled"), (0, u "Z"), (88, u "(II)I"), (2, u "twoToTheDoubleScaleDown"), (0, u "D"), (4, u "twoToTheDoubleScaleUp"), (9, u "E"), (3, u "PI"), (2, u "TAU"), (2, u "DEGREES_TO_RADIANS"), (0, u "RADIANS_TO_DEGREES")] 94

def k11m0 : Method := { name := "<init>", desc := "()V", sig := { parameters := [], returnType := none }, accessFlags := 2, code := none }
def k11c1 : Code := { maxStack := 2, maxLocals := 2, code := jdk_29_method_65_code, exceptionTable := #[], attributes := #[] }
def k11m1 : Method := { name := "max", desc := "(II)I", sig := { parameters := [.int, .int], returnType := some .int }, accessFlags := 9, code := some k11c1 }
def k11c2 : Code := { maxStack := 2, maxLocals := 2, code := jdk_29_method_69_code, exceptionTable := #[], attributes := #[] }
def k11m2 : Method := { name := "min", desc := "(II)I", sig := { parameters := [.int, .int], returnType := some .int }, accessFlags := 9, code := some k11c2 }
/-- java/lang/Math -/
def k11 : Class := { plain "java/lang/Math" (some 0) with
  accessFlags := 49
  interfaces := #[]
  cf := some (fileOf pool11 1 #[.nestMembers #[98]] #[{ accessFlags := 2, nameIndex := 7, descriptorIndex := 8, attributes := #[] }, { accessFlags := 9, nameIndex := 198, descriptorIndex := 335, attributes := #[] }, { accessFlags := 9, nameIndex := 201, descriptorIndex := 335, attributes := #[] }] 49 4 #[] #[{ accessFlags := 25, nameIndex := 354, descriptorIndex := 339, attributes := #[] }, { accessFlags := 25, nameIndex := 358, descriptorIndex := 339, attributes := #[] }, { accessFlags := 25, nameIndex := 361, descriptorIndex := 339, attributes := #[] }, { accessFlags := 26, nameIndex := 364, descriptorIndex := 339, attributes := #[] }, { accessFlags := 26, nameIndex := 365, descriptorIndex := 339, attributes := #[] }, { accessFlags := 26, nameIndex := 172, descriptorIndex := 173, attributes := #[] }, { accessFlags := 26, nameIndex := 176, descriptorIndex := 173, attributes := #[] }, { accessFlags := 8, nameIndex := 344, descriptorIndex := 339, attributes := #[] }, { accessFlags := 8, nameIndex := 338, descriptorIndex := 339, attributes := #[] }, { accessFlags := 4120, nameIndex := 245, descriptorIndex := 246, attributes := #[] }])
  fields := #[{ name := "E", type := .double, accessFlags := 25, slot := 0, constantValue := 0 }, { name := "PI", type := .double, accessFlags := 25, slot := 1, constantValue := 0 }, { name := "TAU", type := .double, accessFlags := 25, slot := 2, constantValue := 0 }, { name := "DEGREES_TO_RADIANS", type := .double, accessFlags := 26, slot := 3, constantValue := 0 }, { name := "RADIANS_TO_DEGREES", type := .double, accessFlags := 26, slot := 4, constantValue := 0 }, { name := "negativeZeroFloatBits", type := .long, accessFlags := 26, slot := 5, constantValue := 0 }, { name := "negativeZeroDoubleBits", type := .long, accessFlags := 26, slot := 6, constantValue := 0 }, { name := "twoToTheDoubleScaleUp", type := .double, accessFlags := 8, slot := 7, constantValue := 0 }, { name := "twoToTheDoubleScaleDown", type := .double, accessFlags := 8, slot := 8, constantValue := 0 }, { name := "$assertionsDisabled", type := .boolean, accessFlags := 4120, slot := 9, constantValue := 0 }]
  methods := #[k11m0, k11m1, k11m2]
  instanceTypes := #[]
  staticTypes := #[.double, .double, .double, .double, .double, .long, .long, .double, .double, .boolean]
  resolved := Array.replicate 460 none
  statics := none }

def pool12 : Array CpInfo := pool [(2, .class_ 4), (1, u "java/lang/Object"), (0, u "<init>"), (0, u "()V"), (17, .class_ 26), (1, u "jdk/internal/util/Preconditions"), (28, .class_ 56), (0, u "jdk/internal/util/Preconditions$4"), (57, .class_ 115), (0, u "jdk/internal/util/Preconditions$1"), (7, u "SIOOBE_FORMATTER"), (0, u "Ljava/util/function/BiFunction;"), (0, .class_ 126), (0, u "jdk/internal/util/Preconditions$2"), (3, u "AIOOBE_FORMATTER"), (0, .class_ 132), (0, u "jdk/internal/util/Preconditions$3"), (3, u "IOOBE_FORMATTER")] 57

def k12m0 : Method := { name := "<init>", desc := "()V", sig := { parameters := [], returnType := none }, accessFlags := 1, code := none }
/-- jdk/internal/util/Preconditions -/
def k12 : Class := { plain "jdk/internal/util/Preconditions" (some 0) with
  accessFlags := 33
  interfaces := #[]
  cf := some (fileOf pool12 24 #[.nestMembers #[55, 131, 125, 114]] #[{ accessFlags := 1, nameIndex := 5, descriptorIndex := 6, attributes := #[] }] 33 2 #[] #[{ accessFlags := 25, nameIndex := 123, descriptorIndex := 124, attributes := #[] }, { accessFlags := 25, nameIndex := 130, descriptorIndex := 124, attributes := #[] }, { accessFlags := 25, nameIndex := 136, descriptorIndex := 124, attributes := #[] }])
  fields := #[{ name := "SIOOBE_FORMATTER", type := (.object "java/util/function/BiFunction"), accessFlags := 25, slot := 0, constantValue := 0 }, { name := "AIOOBE_FORMATTER", type := (.object "java/util/function/BiFunction"), accessFlags := 25, slot := 1, constantValue := 0 }, { name := "IOOBE_FORMATTER", type := (.object "java/util/function/BiFunction"), accessFlags := 25, slot := 2, constantValue := 0 }]
  methods := #[k12m0]
  instanceTypes := #[]
  staticTypes := #[(.object "java/util/function/BiFunction"), (.object "java/util/function/BiFunction"), (.object "java/util/function/BiFunction")]
  resolved := Array.replicate 194 none
  statics := some 1 }

def pool13 : Array CpInfo := pool [(9, u "<init>"), (6, .class_ 18), (1, u "java/lang/Object"), (0, u "()V"), (1, .class_ 23), (1, u "jdk/internal/util/ArraysSupport"), (0, u "LOG2_ARRAY_LONG_INDEX_SCALE"), (0, u "I"), (2, u "U"), (0, u "Ljdk/internal/misc/Unsafe;"), (8, u "BIG_ENDIAN"), (0, u "Z"), (8, u "LOG2_BYTE_BIT_SIZE"), (4, u "LOG2_ARRAY_INT_INDEX_SCALE"), (54, u "JLA"), (0, u "Ljdk/internal/access/JavaLangAccess;"), (11, u "LOG2_ARRAY_BOOLEAN_INDEX_SCALE"), (9, u "LOG2_ARRAY_BYTE_INDEX_SCALE"), (5, u "LOG2_ARRAY_CHAR_INDEX_SCALE"), (5, u "LOG2_ARRAY_SHORT_INDEX_SCALE"), (18, u "LOG2_ARRAY_FLOAT_INDEX_SCALE"), (24, u "LOG2_ARRAY_DOUBLE_INDEX_SCALE"), (89, u "T_BOOLEAN"), (2, u "T_CHAR"), (1, u "T_FLOAT"), (1, u "T_DOUBLE"), (1, u "T_BYTE"), (1, u "T_SHORT"), (1, u "T_INT"), (1, u "T_LONG"), (1, u "SOFT_MAX_ARRAY_LENGTH")] 83

def k13m0 : Method := { name := "<init>", desc := "()V", sig := { parameters := [], returnType := none }, accessFlags := 2, code := none }
/-- jdk/internal/util/ArraysSupport -/
def k13 : Class := { plain "jdk/internal/util/ArraysSupport" (some 0) with
  accessFlags := 33
  interfaces := #[]
  cf := some (fileOf pool13 21 #[] #[{ accessFlags := 2, nameIndex := 9, descriptorIndex := 19, attributes := #[] }] 33 16 #[] #[{ accessFlags := 24, nameIndex := 28, descriptorIndex := 29, attributes := #[] }, { accessFlags := 26, nameIndex := 38, descriptorIndex := 39, attributes := #[] }, { accessFlags := 25, nameIndex := 121, descriptorIndex := 25, attributes := #[] }, { accessFlags := 25, nameIndex := 131, descriptorIndex := 25, attributes := #[] }, { accessFlags := 25, nameIndex := 137, descriptorIndex := 25, attributes := #[] }, { accessFlags := 25, nameIndex := 143, descriptorIndex := 25, attributes := #[] }, { accessFlags := 25, nameIndex := 53, descriptorIndex := 25, attributes := #[] }, { accessFlags := 25, nameIndex := 24, descriptorIndex := 25, attributes := #[] }, { accessFlags := 25, nameIndex := 162, descriptorIndex := 25, attributes := #[] }, { accessFlags := 25, nameIndex := 187, descriptorIndex := 25, attributes := #[] }, { accessFlags := 26, nameIndex := 48, descriptorIndex := 25, attributes := #[] }, { accessFlags := 25, nameIndex := 277, descriptorIndex := 25, attributes := #[] }, { accessFlags := 25, nameIndex := 280, descriptorIndex := 25, attributes := #[] }, { accessFlags := 25, nameIndex := 282, descriptorIndex := 25, attributes := #[] }, { accessFlags := 25, nameIndex := 284, descriptorIndex := 25, attributes := #[] }, { accessFlags := 25, nameIndex := 286, descriptorIndex := 25, attributes := #[] }, { accessFlags := 25, nameIndex := 288, descriptorIndex := 25, attributes := #[] }, { accessFlags := 25, nameIndex := 290, descriptorIndex := 25, attributes := #[] }, { accessFlags := 25, nameIndex := 292, descriptorIndex := 25, attributes := #[] }, { accessFlags := 26, nameIndex := 108, descriptorIndex := 109, attributes := #[] }, { accessFlags := 25, nameIndex := 294, descriptorIndex := 25, attributes := #[] }])
  fields := #[{ name := "U", type := (.object "jdk/internal/misc/Unsafe"), accessFlags := 24, slot := 0, constantValue := 0 }, { name := "BIG_ENDIAN", type := .boolean, accessFlags := 26, slot := 1, constantValue := 0 }, { name := "LOG2_ARRAY_BOOLEAN_INDEX_SCALE", type := .int, accessFlags := 25, slot := 2, constantValue := 0 }, { name := "LOG2_ARRAY_BYTE_INDEX_SCALE", type := .int, accessFlags := 25, slot := 3, constantValue := 0 }, { name := "LOG2_ARRAY_CHAR_INDEX_SCALE", type := .int, accessFlags := 25, slot := 4, constantValue := 0 }, { name := "LOG2_ARRAY_SHORT_INDEX_SCALE", type := .int, accessFlags := 25, slot := 5, constantValue := 0 }, { name := "LOG2_ARRAY_INT_INDEX_SCALE", type := .int, accessFlags := 25, slot := 6, constantValue := 0 }, { name := "LOG2_ARRAY_LONG_INDEX_SCALE", type := .int, accessFlags := 25, slot := 7, constantValue := 0 }, { name := "LOG2_ARRAY_FLOAT_INDEX_SCALE", type := .int, accessFlags := 25, slot := 8, constantValue := 0 }, { name := "LOG2_ARRAY_DOUBLE_INDEX_SCALE", type := .int, accessFlags := 25, slot := 9, constantValue := 0 }, { name := "LOG2_BYTE_BIT_SIZE", type := .int, accessFlags := 26, slot := 10, constantValue := 0 }, { name := "T_BOOLEAN", type := .int, accessFlags := 25, slot := 11, constantValue := 0 }, { name := "T_CHAR", type := .int, accessFlags := 25, slot := 12, constantValue := 0 }, { name := "T_FLOAT", type := .int, accessFlags := 25, slot := 13, constantValue := 0 }, { name := "T_DOUBLE", type := .int, accessFlags := 25, slot := 14, constantValue := 0 }, { name := "T_BYTE", type := .int, accessFlags := 25, slot := 15, constantValue := 0 }, { name := "T_SHORT", type := .int, accessFlags := 25, slot := 16, constantValue := 0 }, { name := "T_INT", type := .int, accessFlags := 25, slot := 17, constantValue := 0 }, { name := "T_LONG", type := .int, accessFlags := 25, slot := 18, constantValue := 0 }, { name := "JLA", type := (.object "jdk/internal/access/JavaLangAccess"), accessFlags := 26, slot := 19, constantValue := 0 }, { name := "SOFT_MAX_ARRAY_LENGTH", type := .int, accessFlags := 25, slot := 20, constantValue := 0 }]
  methods := #[k13m0]
  instanceTypes := #[]
  staticTypes := #[(.object "jdk/internal/misc/Unsafe"), .boolean, .int, .int, .int, .int, .int, .int, .int, .int, .int, .int, .int, .int, .int, .int, .int, .int, .int, (.object "jdk/internal/access/JavaLangAccess"), .int]
  resolved := Array.replicate 378 none
  statics := none }

def pool14 : Array CpInfo := pool [(1, u "java/lang/Cloneable"), (0, .class_ 1), (0, u "java/lang/Object"), (0, .class_ 3)] 3

/-- java/lang/Cloneable -/
def k14 : Class := { plain "java/lang/Cloneable" (some 0) with
  accessFlags := 1537
  interfaces := #[]
  cf := some (fileOf pool14 2 #[] #[] 1537 4 #[] #[])
  fields := #[]
  methods := #[]
  instanceTypes := #[]
  staticTypes := #[]
  resolved := Array.replicate 8 none
  statics := none }

/-- the primitive byte -/
def k15 : Class := { plain "byte" none with kind := .primitive 'B', accessFlags := 0x411 }
/-- [B -/
def k16 : Class := { plain "[B" (some 0) with kind := .array 15 .byte, interfaces := #[14, 2], accessFlags := 1041 }

/-- the primitive char -/
def k17 : Class := { plain "char" none with kind := .primitive 'C', accessFlags := 0x411 }
/-- [C -/
def k18 : Class := { plain "[C" (some 0) with kind := .array 17 .char, interfaces := #[14, 2], accessFlags := 1041 }

/-- the primitive int -/
def k19 : Class := { plain "int" none with kind := .primitive 'I', accessFlags := 0x411 }
/-- [I -/
def k20 : Class := { plain "[I" (some 0) with kind := .array 19 .int, interfaces := #[14, 2], accessFlags := 1041 }

def heap : Heap := #[{ cls := 7, slots := #[.long 0, .int 1, .null, .int 0, .null, .int 0, .int 0], vm := .statics 7 },
  { cls := 12, slots := #[.null, .null, .null], vm := .statics 12 }]
def classes : Array Class := #[k0, k1, k2, k3, k4, k5, k6, k7, k8, k9, k10, k11, k12, k13, k14, k15, k16, k17, k18, k19, k20]
def interned : List (Array UInt16 × Addr) := []
def slotsUsed : Nat := 10
def theMethod : MethodId := ⟨1, 4⟩
def args0 : Array Value := #[.int 5, .int 5, .int 5, .int 5, .int 5, .int 5]
def aboutOver (below : List Frame) : State where
  vm := { classes := classes, interned := interned.toArray }
  heap := heap
  slotsUsed := slotsUsed
  threads := #[{ frames := .invoking theMethod args0 :: below }]
def below0 : List Frame := [.native { method := ⟨0, 0⟩, args := #[] }]
def about1 : State := aboutOver below0
def p0 : Program := .bare "" "" ""
def e0 : Env := launch0.env 0 0 0
theorem w_frames : about1.frames = Frame.invoking theMethod args0 :: below0 := rfl
set_option maxRecDepth 65536 in
theorem w_args : argsFit about1.vm theMethod args0 = true := by decide +kernel
set_option maxRecDepth 65536 in
theorem w_heap : heapFits about1 = true := by decide +kernel
set_option maxRecDepth 65536 in
theorem w_runnable : about1.curStatus? = some .runnable := by decide +kernel
set_option maxRecDepth 65536 in
theorem w_alone : about1.alone = true := by decide +kernel
set_option maxRecDepth 65536 in
theorem w_named : about1.methodNamed? x = some theMethod := by decide +kernel
set_option maxRecDepth 65536 in
theorem w_hears : about1.hears theMethod below0 = true := by decide +kernel
set_option maxRecDepth 65536 in
theorem w_ripe : about1.ripe theMethod args0 below0 = true := by decide +kernel
theorem w_running : about1.status = .running := rfl
set_option maxRecDepth 65536 in
theorem w_room : about1.hasRoom e0.platform room_1 = true :=
  launch0.hasRoom_least _ room_1 (by decide +kernel) (by decide +kernel) (by decide +kernel) (by decide +kernel) (by decide +kernel) (by decide +kernel)
theorem allAtoms_all (ts : List Jvm.Cond) (a : Array Jvm.Value) (st : Jvm.State) : (allAtoms ts).before a st = ts.all (fun c => c.before a st) := by
  induction ts with
  | nil => rfl
  | cons c t ih =>
    show (Jvm.Cond.and c (allAtoms t)).before a st = _
    rw [Jvm.Cond.before_and, ih, List.all_cons]
def words1 : List Jvm.Cond := Jvm.Cond.code x code maxLocals ret :: tables_1
/-- a 'code' word, met by the world's own term for the bytes: nothing is compared byte by byte -/
theorem code_word {y : MethodName} {bytes : ByteArray} {mx : Nat} {rt : Option FieldType} {a : Array Value} {s : State} {m : MethodId} {meth : Method} {c : Code} (h1 : s.methodNamed? y = some m) (h2 : s.vm.method? m = some meth) (h3 : meth.code = some c) (h4 : c.code = bytes)
    (h5 : (c.maxLocals == mx && c.exceptionTable.isEmpty && decide (c.maxStack ≤ mostOperands) && decide (meth.sig.returnType = rt) && !meth.locks && decide (parseMethodDescriptor y.desc = some meth.sig)) = true) : (Jvm.Cond.code y bytes mx rt).before a s = true := by
  simp only [Bool.and_eq_true, beq_iff_eq, Bool.not_eq_true', decide_eq_true_eq] at h5
  obtain ⟨⟨⟨⟨⟨g1, g2⟩, g3⟩, g4⟩, g5⟩, g6⟩ := h5
  simp [Cond.before, Cond.holds, Cond.value, h1, h2, h3, h4, g1, g2, g3, g4, g5, g6]
def isCode : Jvm.Cond → Bool
  | .code _ _ _ _ => true
  | _ => false
theorem all_split {L : List Jvm.Cond} {P : Jvm.Cond → Bool} (h1 : L.all (fun c => isCode c || P c) = true) (h2 : ∀ c ∈ L.filter isCode, P c = true) : L.all P = true := by
  refine List.all_eq_true.mpr fun c hc => ?_
  have h := List.all_eq_true.mp h1 c hc
  rcases Bool.eq_false_or_eq_true (isCode c) with hi | hi
  · exact h2 c (List.mem_filter.mpr ⟨hc, hi⟩)
  · simpa [hi] using h
set_option maxRecDepth 65536 in
theorem w_c0 : (Jvm.Cond.code x code maxLocals ret).before args0 about1 = true := code_word (m := ⟨1, 4⟩) (meth := k1m4) (c := k1c4) (by decide +kernel) rfl rfl rfl (by decide +kernel)
set_option maxRecDepth 65536 in
theorem w_c1 : (Jvm.Cond.code ({ cls := "com/example/encon/encon/UrlSyntaxUserInfoMayEndAfterPinLaw", name := "draw", desc := "(I)C" } : Jvm.MethodName) method_2_code (2 : Nat) (Option.some Jvm.ClassFile.FieldType.char)).before args0 about1 = true := code_word (m := ⟨1, 1⟩) (meth := k1m1) (c := k1c1) (by decide +kernel) rfl rfl rfl (by decide +kernel)
set_option maxRecDepth 65536 in
theorem w_c2 : (Jvm.Cond.code ({ cls := "java/lang/String", name := "<init>", desc := "([C)V" } : Jvm.MethodName) jdk_42_method_3_code (2 : Nat) (Option.none : Option Jvm.ClassFile.FieldType)).before args0 about1 = true := code_word (m := ⟨7, 1⟩) (meth := k7m1) (c := k7c1) (by decide +kernel) rfl rfl rfl (by decide +kernel)
set_option maxRecDepth 65536 in
theorem w_c3 : (Jvm.Cond.code ({ cls := "java/lang/String", name := "<init>", desc := "([CIILjava/lang/Void;)V" } : Jvm.MethodName) jdk_42_method_149_code (6 : Nat) (Option.none : Option Jvm.ClassFile.FieldType)).before args0 about1 = true := code_word (m := ⟨7, 4⟩) (meth := k7m4) (c := k7c4) (by decide +kernel) rfl rfl rfl (by decide +kernel)
set_option maxRecDepth 65536 in
theorem w_c4 : (Jvm.Cond.code ({ cls := "java/lang/Object", name := "<init>", desc := "()V" } : Jvm.MethodName) object_method_1_code (1 : Nat) (Option.none : Option Jvm.ClassFile.FieldType)).before args0 about1 = true := code_word (m := ⟨0, 0⟩) (meth := k0m0) (c := k0c0) (by decide +kernel) rfl rfl rfl (by decide +kernel)
set_option maxRecDepth 65536 in
theorem w_c5 : (Jvm.Cond.code ({ cls := "java/lang/StringUTF16", name := "compress", desc := "([CII)[B" } : Jvm.MethodName) jdk_52_method_16_code (6 : Nat) (Option.some (Jvm.ClassFile.FieldType.array Jvm.ClassFile.FieldType.byte))).before args0 about1 = true := code_word (m := ⟨8, 2⟩) (meth := k8m2) (c := k8c2) (by decide +kernel) rfl rfl rfl (by decide +kernel)
set_option maxRecDepth 65536 in
theorem w_c6 : (Jvm.Cond.code ({ cls := "java/lang/StringUTF16", name := "compress", desc := "([CI[BII)I" } : Jvm.MethodName) jdk_52_method_21_code (7 : Nat) (Option.some Jvm.ClassFile.FieldType.int)).before args0 about1 = true := code_word (m := ⟨8, 3⟩) (meth := k8m3) (c := k8c3) (by decide +kernel) rfl rfl rfl (by decide +kernel)
set_option maxRecDepth 65536 in
theorem w_c7 : (Jvm.Cond.code ({ cls := "java/lang/StringUTF16", name := "coderFromArrayLen", desc := "([BI)B" } : Jvm.MethodName) jdk_52_method_15_code (2 : Nat) (Option.some Jvm.ClassFile.FieldType.byte)).before args0 about1 = true := code_word (m := ⟨8, 1⟩) (meth := k8m1) (c := k8c1) (by decide +kernel) rfl rfl rfl (by decide +kernel)
set_option maxRecDepth 65536 in
theorem w_c8 : (Jvm.Cond.code ({ cls := "com/example/encon/encon/UrlSyntax", name := "userInfoMayEndAfter", desc := "(Ljava/lang/String;I)Z" } : Jvm.MethodName) prog_108_method_3_code (4 : Nat) (Option.some Jvm.ClassFile.FieldType.boolean)).before args0 about1 = true := code_word (m := ⟨9, 1⟩) (meth := k9m1) (c := k9c1) (by decide +kernel) rfl rfl rfl (by decide +kernel)
set_option maxRecDepth 65536 in
theorem w_c9 : (Jvm.Cond.code ({ cls := "java/lang/String", name := "indexOf", desc := "(II)I" } : Jvm.MethodName) jdk_42_method_80_code (3 : Nat) (Option.some Jvm.ClassFile.FieldType.int)).before args0 about1 = true := code_word (m := ⟨7, 3⟩) (meth := k7m3) (c := k7c3) (by decide +kernel) rfl rfl rfl (by decide +kernel)
set_option maxRecDepth 65536 in
theorem w_c10 : (Jvm.Cond.code ({ cls := "java/lang/String", name := "isLatin1", desc := "()Z" } : Jvm.MethodName) jdk_42_method_154_code (1 : Nat) (Option.some Jvm.ClassFile.FieldType.boolean)).before args0 about1 = true := code_word (m := ⟨7, 6⟩) (meth := k7m6) (c := k7c6) (by decide +kernel) rfl rfl rfl (by decide +kernel)
set_option maxRecDepth 65536 in
theorem w_c11 : (Jvm.Cond.code ({ cls := "java/lang/String", name := "length", desc := "()I" } : Jvm.MethodName) jdk_42_method_54_code (1 : Nat) (Option.some Jvm.ClassFile.FieldType.int)).before args0 about1 = true := code_word (m := ⟨7, 2⟩) (meth := k7m2) (c := k7c2) (by decide +kernel) rfl rfl rfl (by decide +kernel)
set_option maxRecDepth 65536 in
theorem w_c12 : (Jvm.Cond.code ({ cls := "java/lang/String", name := "coder", desc := "()B" } : Jvm.MethodName) jdk_42_method_152_code (1 : Nat) (Option.some Jvm.ClassFile.FieldType.byte)).before args0 about1 = true := code_word (m := ⟨7, 5⟩) (meth := k7m5) (c := k7c5) (by decide +kernel) rfl rfl rfl (by decide +kernel)
set_option maxRecDepth 65536 in
theorem w_c13 : (Jvm.Cond.code ({ cls := "java/lang/StringLatin1", name := "indexOf", desc := "([BIII)I" } : Jvm.MethodName) jdk_43_method_22_code (4 : Nat) (Option.some Jvm.ClassFile.FieldType.int)).before args0 about1 = true := code_word (m := ⟨10, 2⟩) (meth := k10m2) (c := k10c2) (by decide +kernel) rfl rfl rfl (by decide +kernel)
set_option maxRecDepth 65536 in
theorem w_c14 : (Jvm.Cond.code ({ cls := "java/lang/StringLatin1", name := "canEncode", desc := "(I)Z" } : Jvm.MethodName) jdk_43_method_4_code (1 : Nat) (Option.some Jvm.ClassFile.FieldType.boolean)).before args0 about1 = true := code_word (m := ⟨10, 1⟩) (meth := k10m1) (c := k10c1) (by decide +kernel) rfl rfl rfl (by decide +kernel)
set_option maxRecDepth 65536 in
theorem w_c15 : (Jvm.Cond.code ({ cls := "java/lang/Math", name := "max", desc := "(II)I" } : Jvm.MethodName) jdk_29_method_65_code (2 : Nat) (Option.some Jvm.ClassFile.FieldType.int)).before args0 about1 = true := code_word (m := ⟨11, 1⟩) (meth := k11m1) (c := k11c1) (by decide +kernel) rfl rfl rfl (by decide +kernel)
set_option maxRecDepth 65536 in
theorem w_c16 : (Jvm.Cond.code ({ cls := "java/lang/Math", name := "min", desc := "(II)I" } : Jvm.MethodName) jdk_29_method_69_code (2 : Nat) (Option.some Jvm.ClassFile.FieldType.int)).before args0 about1 = true := code_word (m := ⟨11, 2⟩) (meth := k11m2) (c := k11c2) (by decide +kernel) rfl rfl rfl (by decide +kernel)
set_option maxRecDepth 65536 in
theorem w_c17 : (Jvm.Cond.code ({ cls := "java/lang/StringLatin1", name := "indexOfChar", desc := "([BIII)I" } : Jvm.MethodName) jdk_43_method_23_code (6 : Nat) (Option.some Jvm.ClassFile.FieldType.int)).before args0 about1 = true := code_word (m := ⟨10, 3⟩) (meth := k10m3) (c := k10c3) (by decide +kernel) rfl rfl rfl (by decide +kernel)
set_option maxRecDepth 65536 in
theorem w_c18 : (Jvm.Cond.code ({ cls := "com/example/encon/encon/UrlSyntaxUserInfoMayEndAfterPinLaw", name := "reference", desc := "([CI)Z" } : Jvm.MethodName) method_4_code (3 : Nat) (Option.some Jvm.ClassFile.FieldType.boolean)).before args0 about1 = true := code_word (m := ⟨1, 3⟩) (meth := k1m3) (c := k1c3) (by decide +kernel) rfl rfl rfl (by decide +kernel)
set_option maxRecDepth 65536 in
theorem w_c19 : (Jvm.Cond.code ({ cls := "com/example/encon/encon/UrlSyntaxUserInfoMayEndAfterPinLaw", name := "hit", desc := "([CII)I" } : Jvm.MethodName) method_3_code (3 : Nat) (Option.some Jvm.ClassFile.FieldType.int)).before args0 about1 = true := code_word (m := ⟨1, 2⟩) (meth := k1m2) (c := k1c2) (by decide +kernel) rfl rfl rfl (by decide +kernel)
def codes1 : List Jvm.Cond := [Jvm.Cond.code x code maxLocals ret, Jvm.Cond.code ({ cls := "com/example/encon/encon/UrlSyntaxUserInfoMayEndAfterPinLaw", name := "draw", desc := "(I)C" } : Jvm.MethodName) method_2_code (2 : Nat) (Option.some Jvm.ClassFile.FieldType.char), Jvm.Cond.code ({ cls := "java/lang/String", name := "<init>", desc := "([C)V" } : Jvm.MethodName) jdk_42_method_3_code (2 : Nat) (Option.none : Option Jvm.ClassFile.FieldType), Jvm.Cond.code ({ cls := "java/lang/String", name := "<init>", desc := "([CIILjava/lang/Void;)V" } : Jvm.MethodName) jdk_42_method_149_code (6 : Nat) (Option.none : Option Jvm.ClassFile.FieldType), Jvm.Cond.code ({ cls := "java/lang/Object", name := "<init>", desc := "()V" } : Jvm.MethodName) object_method_1_code (1 : Nat) (Option.none : Option Jvm.ClassFile.FieldType), Jvm.Cond.code ({ cls := "java/lang/StringUTF16", name := "compress", desc := "([CII)[B" } : Jvm.MethodName) jdk_52_method_16_code (6 : Nat) (Option.some (Jvm.ClassFile.FieldType.array Jvm.ClassFile.FieldType.byte)), Jvm.Cond.code ({ cls := "java/lang/StringUTF16", name := "compress", desc := "([CI[BII)I" } : Jvm.MethodName) jdk_52_method_21_code (7 : Nat) (Option.some Jvm.ClassFile.FieldType.int), Jvm.Cond.code ({ cls := "java/lang/StringUTF16", name := "coderFromArrayLen", desc := "([BI)B" } : Jvm.MethodName) jdk_52_method_15_code (2 : Nat) (Option.some Jvm.ClassFile.FieldType.byte), Jvm.Cond.code ({ cls := "com/example/encon/encon/UrlSyntax", name := "userInfoMayEndAfter", desc := "(Ljava/lang/String;I)Z" } : Jvm.MethodName) prog_108_method_3_code (4 : Nat) (Option.some Jvm.ClassFile.FieldType.boolean), Jvm.Cond.code ({ cls := "java/lang/String", name := "indexOf", desc := "(II)I" } : Jvm.MethodName) jdk_42_method_80_code (3 : Nat) (Option.some Jvm.ClassFile.FieldType.int), Jvm.Cond.code ({ cls := "java/lang/String", name := "isLatin1", desc := "()Z" } : Jvm.MethodName) jdk_42_method_154_code (1 : Nat) (Option.some Jvm.ClassFile.FieldType.boolean), Jvm.Cond.code ({ cls := "java/lang/String", name := "length", desc := "()I" } : Jvm.MethodName) jdk_42_method_54_code (1 : Nat) (Option.some Jvm.ClassFile.FieldType.int), Jvm.Cond.code ({ cls := "java/lang/String", name := "coder", desc := "()B" } : Jvm.MethodName) jdk_42_method_152_code (1 : Nat) (Option.some Jvm.ClassFile.FieldType.byte), Jvm.Cond.code ({ cls := "java/lang/StringLatin1", name := "indexOf", desc := "([BIII)I" } : Jvm.MethodName) jdk_43_method_22_code (4 : Nat) (Option.some Jvm.ClassFile.FieldType.int), Jvm.Cond.code ({ cls := "java/lang/StringLatin1", name := "canEncode", desc := "(I)Z" } : Jvm.MethodName) jdk_43_method_4_code (1 : Nat) (Option.some Jvm.ClassFile.FieldType.boolean), Jvm.Cond.code ({ cls := "java/lang/Math", name := "max", desc := "(II)I" } : Jvm.MethodName) jdk_29_method_65_code (2 : Nat) (Option.some Jvm.ClassFile.FieldType.int), Jvm.Cond.code ({ cls := "java/lang/Math", name := "min", desc := "(II)I" } : Jvm.MethodName) jdk_29_method_69_code (2 : Nat) (Option.some Jvm.ClassFile.FieldType.int), Jvm.Cond.code ({ cls := "java/lang/StringLatin1", name := "indexOfChar", desc := "([BIII)I" } : Jvm.MethodName) jdk_43_method_23_code (6 : Nat) (Option.some Jvm.ClassFile.FieldType.int), Jvm.Cond.code ({ cls := "com/example/encon/encon/UrlSyntaxUserInfoMayEndAfterPinLaw", name := "reference", desc := "([CI)Z" } : Jvm.MethodName) method_4_code (3 : Nat) (Option.some Jvm.ClassFile.FieldType.boolean), Jvm.Cond.code ({ cls := "com/example/encon/encon/UrlSyntaxUserInfoMayEndAfterPinLaw", name := "hit", desc := "([CII)I" } : Jvm.MethodName) method_3_code (3 : Nat) (Option.some Jvm.ClassFile.FieldType.int)]
set_option maxRecDepth 65536 in
theorem codes_eq : words1.filter isCode = codes1 := rfl
theorem w_codes : ∀ c ∈ words1.filter isCode, c.before args0 about1 = true := by
  rw [codes_eq]
  intro c hc
  simp only [codes1, List.mem_cons, List.not_mem_nil, or_false] at hc
  rcases hc with rfl | rfl | rfl | rfl | rfl | rfl | rfl | rfl | rfl | rfl | rfl | rfl | rfl | rfl | rfl | rfl | rfl | rfl | rfl | rfl
  · exact w_c0
  · exact w_c1
  · exact w_c2
  · exact w_c3
  · exact w_c4
  · exact w_c5
  · exact w_c6
  · exact w_c7
  · exact w_c8
  · exact w_c9
  · exact w_c10
  · exact w_c11
  · exact w_c12
  · exact w_c13
  · exact w_c14
  · exact w_c15
  · exact w_c16
  · exact w_c17
  · exact w_c18
  · exact w_c19
set_option maxRecDepth 65536 in
theorem w_t1 : (words1.take 24).all (fun c => isCode c || c.before args0 about1) = true := by decide +kernel
set_option maxRecDepth 65536 in
theorem w_t2 : ((words1.drop 24).take 24).all (fun c => isCode c || c.before args0 about1) = true := by decide +kernel
set_option maxRecDepth 65536 in
theorem w_t3 : (((words1.drop 24).drop 24).take 24).all (fun c => isCode c || c.before args0 about1) = true := by decide +kernel
set_option maxRecDepth 65536 in
theorem w_t4 : (((words1.drop 24).drop 24).drop 24).all (fun c => isCode c || c.before args0 about1) = true := by decide +kernel
theorem w_tables : (allAtoms (Jvm.Cond.code x code maxLocals ret :: tables_1)).before args0 about1 = true := by
  rw [allAtoms_all]
  show words1.all (fun c => c.before args0 about1) = true
  refine all_split ?_ w_codes
  rw [← List.take_append_drop 24 words1, List.all_append, w_t1, ← List.take_append_drop 24 (words1.drop 24), List.all_append, w_t2, ← List.take_append_drop 24 ((words1.drop 24).drop 24), List.all_append, w_t3, w_t4]
  rfl
set_option maxRecDepth 65536 in
theorem w_rest : rest_1_c.before args0 about1 = true := by decide +kernel
set_option maxRecDepth 65536 in
theorem w_case : (Jvm.Cond.and given_1 narrow_1).before args0 about1 = true := by decide +kernel
theorem w_applies : (headSpec (Jvm.Cond.code x code maxLocals ret :: tables_1) room_1).applies x e0.platform about1 = true :=
  (Spec.applies_iff w_frames).mpr ⟨w_running, w_runnable, w_alone, w_named, w_hears, w_ripe, w_room, w_tables⟩
theorem atStart : AtStart classFile x code maxLocals ret World_1 tables_1 room_1 Calls_1 rest_1 Pre_1 launch0 p0 e0 about1 theMethod args0 below0 :=
  ⟨lists_1, trivial, launch0.admits_env _ _ _, launch0.least_env, fairChoices_fair.cas, fairChoices_fair.clock, w_frames, w_args, w_heap, w_applies, trivial, w_rest, w_case⟩
end start1
theorem witness_1 : WitnessClaimed_1 := ⟨start1.p0, start1.e0, start1.about1, start1.theMethod, start1.args0, start1.below0, start1.atStart⟩
end Jvm.Pilot.@@N@@
