import JvmDerived
import JvmDerived.Pilot.@@N@@Statement
import JvmDerived.Pilot.@@N@@Code
set_option linter.unusedVariables false
set_option linter.unusedSimpArgs false
@@BLOCK:TracedD.lean.txt@@
/- laws to paste: Road.backV, Road.codOf, Road.eqW (cut by pick.py; bodies as the Statement names them) -/
namespace Jvm.Pilot.@@N@@
namespace StrChars
open Jvm Sem ClassFile Op Lib Jvm.Stand Jvm.Free.XT Jvm.Free.ALB Jvm.Free.JM Jvm.Free
open Jvm.Lib.Cold (StaticIs)
/-- a char array whose places are chars -/
def Ch (a : Addr) (A : Cell) (U : State) : Prop := Arr .char a A U ∧ Typed .char A
theorem Ch.mv {a : Addr} {A : Cell} {U U' : State} (h : Ch a A U) (hal : U.vm.Alike U'.vm) (hh : U'.heap = U.heap) : Ch a A U' := ⟨h.1.mv hal hh, h.2⟩
theorem Ch.keep {a : Addr} {A : Cell} {U U' : State} (h : Ch a A U) (hal : U.vm.Alike U'.vm) (hk : U'.heap[a]? = some A) : Ch a A U' := ⟨h.1.keep hal hk, h.2⟩
/-- what place i of a char[]'s cell holds -/
def cv (A : Cell) (i : Nat) : Int32 := match A.slots[i]? with | some (.int x) => x | _ => 0
theorem Ch.get {a : Addr} {A : Cell} {U : State} (h : Ch a A U) {i : Nat} (hi : i < A.slots.size) : A.slots[i]? = some (.int (cv A i)) := by
  have e := Array.getElem?_eq_getElem hi
  have f := h.2 i _ e
  unfold cv; rw [e]
  generalize A.slots[i] = v at f
  cases v <;> simp [fits] at f ⊢
/-- the byte that i2b leaves of a char -/
def lo8 (x : Int32) : Int32 := x.toInt8.toInt32
theorem fits_lo8 (y : Int32) : fits .byte (.int (lo8 y)) = true := by
  have h1 := y.toInt8.le_toInt
  have h2 := y.toInt8.toInt_lt
  simp only [lo8, fits, Bool.and_eq_true, decide_eq_true_eq, Int32.le_iff_toInt_le, Int8.toInt_toInt32, show (-128 : Int32).toInt = -128 from by decide, show (127 : Int32).toInt = 127 from by decide]
  omega
/-- A' is A but that each place j of lo .. hi - 1 holds f j -/
def Laid (A A' : Cell) (lo hi : Nat) (f : Nat → Value) : Prop := A'.cls = A.cls ∧ A'.vm = A.vm ∧ A'.slots.size = A.slots.size ∧ ∀ i, A'.slots[i]? = if lo ≤ i ∧ i < hi then some (f i) else A.slots[i]?
theorem Laid.zero (A : Cell) (lo : Nat) (f : Nat → Value) : Laid A A lo (lo + 0) f := ⟨rfl, rfl, rfl, fun i => by rw [if_neg (by omega)]⟩
theorem Laid.step {A Ak : Cell} {lo k : Nat} {f : Nat → Value} {v : Value} (h : Laid A Ak lo k f) (hlo : lo ≤ k) (hk : k < Ak.slots.size) (hv : v = f k) : Laid A (Ak.setSlot k v) lo (k + 1) f := by
  refine ⟨h.1, h.2.1, by simpa [Cell.setSlot] using h.2.2.1, fun i => ?_⟩
  by_cases e : k = i
  · subst e; rw [Cell.slots_setSlot_self v hk, if_pos (by omega), hv]
  · rw [Cell.slots_setSlot_ne v e, h.2.2.2 i]
    by_cases q : lo ≤ i ∧ i < k
    · rw [if_pos q, if_pos (by omega)]
    · rw [if_neg q, if_neg (by omega)]
def U16 : String := "java/lang/StringUTF16"
namespace Cmp5
def yN : MethodName := ⟨"java/lang/StringUTF16", "compress", "([CI[BII)I"⟩
abbrev yB : ByteArray := jdk_52_method_21_code
theorem d0 : decode yB 0 = .ok (.iconst 0, 1) := by decide +kernel
theorem d1 : decode yB 1 = .ok (.istore 5, 2) := by decide +kernel
theorem d3 : decode yB 3 = .ok (.iload 5, 2) := by decide +kernel
theorem d5 : decode yB 5 = .ok (.iload 4, 2) := by decide +kernel
theorem d7 : decode yB 7 = .ok (.if_icmp (.ge) 37, 3) := by decide +kernel
theorem d10 : decode yB 10 = .ok (.aload_n 0, 1) := by decide +kernel
theorem d11 : decode yB 11 = .ok (.iload_n 1, 1) := by decide +kernel
theorem d12 : decode yB 12 = .ok (.caload, 1) := by decide +kernel
theorem d13 : decode yB 13 = .ok (.istore 6, 2) := by decide +kernel
theorem d15 : decode yB 15 = .ok (.iload 6, 2) := by decide +kernel
theorem d17 : decode yB 17 = .ok (.sipush 255, 3) := by decide +kernel
theorem d20 : decode yB 20 = .ok (.if_icmp (.le) 6, 3) := by decide +kernel
theorem d26 : decode yB 26 = .ok (.aload_n 2, 1) := by decide +kernel
theorem d27 : decode yB 27 = .ok (.iload_n 3, 1) := by decide +kernel
theorem d28 : decode yB 28 = .ok (.iload 6, 2) := by decide +kernel
theorem d30 : decode yB 30 = .ok (.i2b, 1) := by decide +kernel
theorem d31 : decode yB 31 = .ok (.bastore, 1) := by decide +kernel
theorem d32 : decode yB 32 = .ok (.iinc 1 1, 3) := by decide +kernel
theorem d35 : decode yB 35 = .ok (.iinc 3 1, 3) := by decide +kernel
theorem d38 : decode yB 38 = .ok (.iinc 5 1, 3) := by decide +kernel
theorem d41 : decode yB 41 = .ok (.goto (-38), 3) := by decide +kernel
theorem d44 : decode yB 44 = .ok (.iload 4, 2) := by decide +kernel
theorem d46 : decode yB 46 = .ok (.ireturn, 1) := by decide +kernel
def site : List Cond := []
def tab : Cond := tabOf yN yB 7 (some .int) site
def P (b : Addr) (A : Cell) (d : Addr) (B : Cell) (o q len : Nat) (args : Array Value) (s : State) : Prop := args = #[.ref b, .int (Int32.ofNat o), .ref d, .int (Int32.ofNat q), .int (Int32.ofNat len)] ∧ Ch b A s ∧ Arr .byte d B s ∧ b ≠ d ∧ o + len ≤ A.slots.size ∧ q + len ≤ B.slots.size ∧ ∀ i, i < len → ¬ 255 < cv A (o + i)
def E (b : Addr) (A : Cell) (d : Addr) (B : Cell) (o q len : Nat) (r : Option Value) (s u : State) : Prop := r = some (.int (Int32.ofNat len)) ∧ ∃ B', Put d B' s u ∧ Laid B B' q (q + len) (fun j => Value.int (lo8 (cv A (o + (j - q)))))
/-- no char of the range above 255: len; the places written hold each char's low byte -/
theorem law (l : Launch) (b : Addr) (A : Cell) (d : Addr) (B : Cell) (o q len : Nat) : Law l yN 5 5 0 0 yB 7 (some .int) site (P b A d B o q len) (E b A d B o q len) (copyLocs d q len) 0 0 := by
  refine Law.of_walk (plainFor_of_name (by decide +kernel)) (by decide +kernel) (by decide +kernel) (by decide) (fun _ _ h => by rw [h.1]; rfl) (fun _ U U' hal hh h => ⟨h.1, h.2.1.mv hal hh, h.2.2.1.mv hal hh, h.2.2.2⟩) (fun r U U' V V' h1 hal h2 h => ⟨h.1, h.2.elim fun B' q => ⟨B', q.1.mv h1 h2, q.2⟩⟩) ?_
  intro p e s m args below meth c s₁ X0 hexec hbytes hml hret hlk hnm hown hh0 W hP
  obtain ⟨rfl, hA, hB, hne, l1, l2, hp⟩ := hP
  have c1 : Steps p.tables e below (s₁.setTop (entryFrame m #[.ref b, .int (Int32.ofNat o), .ref d, .int (Int32.ofNat q), .int (Int32.ofNat len)] 7)) (s₁.setTop (mkF m 0 #[.val (.ref b), .val (.int (Int32.ofNat o)), .val (.ref d), .val (.int (Int32.ofNat q)), .val (.int (Int32.ofNat len)), .unset, .unset] [])) := entry rfl
  have hA0 := hA.1.mv X0.warmed.alike hh0
  have hB0 := hB.mv X0.warmed.alike hh0
  have a31 := hA.1.2.2.2
  have c2 : Steps p.tables e below (s₁.setTop (entryFrame m #[.ref b, .int (Int32.ofNat o), .ref d, .int (Int32.ofNat q), .int (Int32.ofNat len)] 7)) (s₁.setTop (mkF m 3 #[.val (.ref b), .val (.int (Int32.ofNat o)), .val (.ref d), .val (.int (Int32.ofNat q)), .val (.int (Int32.ofNat len)), .val (.int 0), .unset] [])) := c1.trans (by
    refine iconstV X0.here hexec rfl 0 (hb hbytes d0) (by decide) ?_
    refine XS.istore X0.here hexec rfl (hb hbytes d1) rfl rfl ?_
    exact Steps.refl _)
  have loop : ∀ (r i : Nat), i + r = len → ∀ (z : Slot), (z = .unset ∨ ∃ w, z = .val w ∧ w.category = 1) → ∀ (Tl : State) (Bk : Cell), Stand p l e { frames := 0, locals := 0, cells := 0, slots := 0 } s m #[.ref b, .int (Int32.ofNat o), .ref d, .int (Int32.ofNat q), .int (Int32.ofNat len)] below meth c Tl ([] ++ copyLocs d q i) 0 0 → Put d Bk s₁ Tl → Laid B Bk q (q + i) (fun j => Value.int (lo8 (cv A (o + (j - q))))) →
      Steps p.tables e below (s₁.setTop (entryFrame m #[.ref b, .int (Int32.ofNat o), .ref d, .int (Int32.ofNat q), .int (Int32.ofNat len)] 7)) (Tl.setTop (mkF m 3 #[.val (.ref b), .val (.int (Int32.ofNat (o + i))), .val (.ref d), .val (.int (Int32.ofNat (q + i))), .val (.int (Int32.ofNat len)), .val (.int (Int32.ofNat i)), z] [])) → ∃ (T' : State) (B' : Cell) (z' : Slot), Stand p l e { frames := 0, locals := 0, cells := 0, slots := 0 } s m #[.ref b, .int (Int32.ofNat o), .ref d, .int (Int32.ofNat q), .int (Int32.ofNat len)] below meth c T' ([] ++ copyLocs d q len) 0 0 ∧ Put d B' s₁ T' ∧ Laid B B' q (q + len) (fun j => Value.int (lo8 (cv A (o + (j - q))))) ∧
      Steps p.tables e below (s₁.setTop (entryFrame m #[.ref b, .int (Int32.ofNat o), .ref d, .int (Int32.ofNat q), .int (Int32.ofNat len)] 7)) (T'.setTop (mkF m 3 #[.val (.ref b), .val (.int (Int32.ofNat (o + len))), .val (.ref d), .val (.int (Int32.ofNat (q + len))), .val (.int (Int32.ofNat len)), .val (.int (Int32.ofNat len)), z'] [])) := by
    intro r
    induction r with
    | zero =>
      intro i hi z hz Tl Bk Xl pl fl cl
      have hil : i = len := by omega
      rw [hil] at Xl fl cl
      exact ⟨Tl, Bk, z, Xl, pl, fl, cl⟩
    | succ r ih =>
      intro i hi z hz Tl Bk Xl pl fl cl
      have all := X0.warmed.alike.symm.trans Xl.warmed.alike
      have hAl := hA0.keep all (pl.other hne hA0.1)
      have hBk := hB0.like all pl.1 fl.1 fl.2.1 fl.2.2.1
      have hlt : q + i < Bk.slots.size := by rw [fl.2.2.1]; omega
      have c3 : Steps p.tables e below (s₁.setTop (entryFrame m #[.ref b, .int (Int32.ofNat o), .ref d, .int (Int32.ofNat q), .int (Int32.ofNat len)] 7)) (Tl.setTop (mkF m 12 #[.val (.ref b), .val (.int (Int32.ofNat (o + i))), .val (.ref d), .val (.int (Int32.ofNat (q + i))), .val (.int (Int32.ofNat len)), .val (.int (Int32.ofNat i)), z] [.int (Int32.ofNat (o + i)), .ref b])) := cl.trans (by
        refine XS.iload Xl.here hexec rfl (hb hbytes d3) rfl ?_
        refine XS.iload Xl.here hexec rfl (hb hbytes d5) rfl ?_
        refine XS.icmpNo Xl.here hexec rfl (hb hbytes d7) rfl (ii_ge_f (lt32 (by omega) (by omega))) ?_
        refine XS.aloadN Xl.here hexec rfl (hb hbytes d10) rfl rfl ?_
        refine XS.iloadN Xl.here hexec rfl (hb hbytes d11) rfl ?_
        exact Steps.refl _)
      have c4 : Steps p.tables e below (s₁.setTop (entryFrame m #[.ref b, .int (Int32.ofNat o), .ref d, .int (Int32.ofNat q), .int (Int32.ofNat len)] 7)) (Tl.setTop (mkF m 13 #[.val (.ref b), .val (.int (Int32.ofNat (o + i))), .val (.ref d), .val (.int (Int32.ofNat (q + i))), .val (.int (Int32.ofNat len)), .val (.int (Int32.ofNat i)), z] [.int (cv A (o + i))])) := c3.trans (by
        refine Xl.aget hexec hAl rfl (hA.get (i := o + i) (by omega)) rfl rfl (hb hbytes d12) ?_
        exact Steps.refl _)
      have c5 : Steps p.tables e below (s₁.setTop (entryFrame m #[.ref b, .int (Int32.ofNat o), .ref d, .int (Int32.ofNat q), .int (Int32.ofNat len)] 7)) (Tl.setTop (mkF m 15 #[.val (.ref b), .val (.int (Int32.ofNat (o + i))), .val (.ref d), .val (.int (Int32.ofNat (q + i))), .val (.int (Int32.ofNat len)), .val (.int (Int32.ofNat i)), .val (.int (cv A (o + i)))] [])) := c4.trans (by
        refine XS.istoreS Xl.here hexec rfl (hb hbytes d13) rfl rfl hz ?_
        exact Steps.refl _)
      have c6 : Steps p.tables e below (s₁.setTop (entryFrame m #[.ref b, .int (Int32.ofNat o), .ref d, .int (Int32.ofNat q), .int (Int32.ofNat len)] 7)) (Tl.setTop (mkF m 31 #[.val (.ref b), .val (.int (Int32.ofNat (o + i))), .val (.ref d), .val (.int (Int32.ofNat (q + i))), .val (.int (Int32.ofNat len)), .val (.int (Int32.ofNat i)), .val (.int (cv A (o + i)))] [.int (lo8 (cv A (o + i))), .int (Int32.ofNat (q + i)), .ref d])) := c5.trans (by
        refine XS.iload Xl.here hexec rfl (hb hbytes d15) rfl ?_
        refine sipushV Xl.here hexec rfl 255 (hb hbytes d17) (by decide) ?_
        refine XS.icmpYes Xl.here hexec rfl (pc0 := 20) rfl (hb hbytes d20) rfl (ii_le_t (hp i (by omega))) (by decide) rfl ?_
        refine XS.aloadN Xl.here hexec rfl (hb hbytes d26) rfl rfl ?_
        refine XS.iloadN Xl.here hexec rfl (hb hbytes d27) rfl ?_
        refine XS.iload Xl.here hexec rfl (hb hbytes d28) rfl ?_
        refine i2b Xl.here hexec rfl (hb hbytes d30) rfl ?_
        exact Steps.refl _)
      obtain ⟨T7, X7, p7, st7⟩ := Xl.aput hexec hBk rfl hlt rfl (fits_lo8 (cv A (o + i))) (g := (mkF m 31 #[.val (.ref b), .val (.int (Int32.ofNat (o + i))), .val (.ref d), .val (.int (Int32.ofNat (q + i))), .val (.int (Int32.ofNat len)), .val (.int (Int32.ofNat i)), .val (.int (cv A (o + i)))] [.int (lo8 (cv A (o + i))), .int (Int32.ofNat (q + i)), .ref d])) rfl (rest := []) rfl (hb hbytes d31)
      have c8 : Steps p.tables e below (s₁.setTop (entryFrame m #[.ref b, .int (Int32.ofNat o), .ref d, .int (Int32.ofNat q), .int (Int32.ofNat len)] 7)) (T7.setTop (mkF m 32 #[.val (.ref b), .val (.int (Int32.ofNat (o + i))), .val (.ref d), .val (.int (Int32.ofNat (q + i))), .val (.int (Int32.ofNat len)), .val (.int (Int32.ofNat i)), .val (.int (cv A (o + i)))] [])) := c6.trans (st7 _ (Steps.refl _))
      have c9 : Steps p.tables e below (s₁.setTop (entryFrame m #[.ref b, .int (Int32.ofNat o), .ref d, .int (Int32.ofNat q), .int (Int32.ofNat len)] 7)) (T7.setTop (mkF m 3 #[.val (.ref b), .val (.int (Int32.ofNat (o + i) + 1)), .val (.ref d), .val (.int (Int32.ofNat (q + i) + 1)), .val (.int (Int32.ofNat len)), .val (.int (Int32.ofNat i + 1)), .val (.int (cv A (o + i)))] [])) := c8.trans (by
        refine iincV X7.here hexec rfl 1 (hb hbytes d32) (by decide) rfl rfl ?_
        refine iincV X7.here hexec rfl 1 (hb hbytes d35) (by decide) rfl rfl ?_
        refine iincV X7.here hexec rfl 1 (hb hbytes d38) (by decide) rfl rfl ?_
        refine XS.goto X7.here hexec rfl (pc0 := 41) rfl (hb hbytes d41) (by decide) rfl ?_
        exact Steps.refl _)
      have c10 : Steps p.tables e below (s₁.setTop (entryFrame m #[.ref b, .int (Int32.ofNat o), .ref d, .int (Int32.ofNat q), .int (Int32.ofNat len)] 7)) (T7.setTop (mkF m 3 #[.val (.ref b), .val (.int (Int32.ofNat (o + (i + 1)))), .val (.ref d), .val (.int (Int32.ofNat (q + (i + 1)))), .val (.int (Int32.ofNat len)), .val (.int (Int32.ofNat (i + 1))), .val (.int (cv A (o + i)))] [])) := by
        have := c9
        rw [succ32, succ32, succ32] at this
        exact this
      exact ih (i + 1) (by omega) _ (Or.inr ⟨_, rfl, rfl⟩) T7 _ (by rw [copyLocs_step, ← List.append_assoc]; exact X7) (pl.trans p7) (fl.step (by omega) hlt (by simp)) c10
  obtain ⟨T9, B9, z9, X9, p9, f9, g9⟩ := loop len 0 (by omega) .unset (Or.inl rfl) s₁ B (by simpa [copyLocs] using X0) ⟨hB0.1, fun _ _ => rfl, rfl⟩ (Laid.zero _ _ _) c2
  have c11 : Steps p.tables e below (s₁.setTop (entryFrame m #[.ref b, .int (Int32.ofNat o), .ref d, .int (Int32.ofNat q), .int (Int32.ofNat len)] 7)) (T9.setTop (mkF m 46 #[.val (.ref b), .val (.int (Int32.ofNat (o + len))), .val (.ref d), .val (.int (Int32.ofNat (q + len))), .val (.int (Int32.ofNat len)), .val (.int (Int32.ofNat len)), z9] [.int (Int32.ofNat len)])) := g9.trans (by
    refine XS.iload X9.here hexec rfl (hb hbytes d3) rfl ?_
    refine XS.iload X9.here hexec rfl (hb hbytes d5) rfl ?_
    refine XS.icmpYes X9.here hexec rfl (pc0 := 7) rfl (hb hbytes d7) rfl (ii_ge_t (nlt32 (by omega) (Nat.le_refl _))) (by decide) rfl ?_
    refine XS.iload X9.here hexec rfl (hb hbytes d44) rfl ?_
    exact Steps.refl _)
  exact ⟨T9, some (.int (Int32.ofNat len)), _, _, _, X9, by simp, rfl, rfl, (fun h => by cases h), ⟨rfl, B9, p9.from hh0, f9⟩, fun fs hl => c11.trans (X9.ireturnOut hexec hret rfl (Or.inl rfl) (hb hbytes d46) hl)⟩
end Cmp5
namespace Cmp3
def yN : MethodName := ⟨"java/lang/StringUTF16", "compress", "([CII)[B"⟩
abbrev yB : ByteArray := jdk_52_method_16_code
theorem d0 : decode yB 0 = .ok (.iload_n 2, 1) := by decide +kernel
theorem d1 : decode yB 1 = .ok (.newarray .byte, 2) := by decide +kernel
theorem d3 : decode yB 3 = .ok (.astore_n 3, 1) := by decide +kernel
theorem d4 : decode yB 4 = .ok (.aload_n 0, 1) := by decide +kernel
theorem d5 : decode yB 5 = .ok (.iload_n 1, 1) := by decide +kernel
theorem d6 : decode yB 6 = .ok (.aload_n 3, 1) := by decide +kernel
theorem d7 : decode yB 7 = .ok (.iconst 0, 1) := by decide +kernel
theorem d8 : decode yB 8 = .ok (.iload_n 2, 1) := by decide +kernel
theorem d9 : decode yB 9 = .ok (.invokestatic 115, 3) := by decide +kernel
theorem d12 : decode yB 12 = .ok (.istore 4, 2) := by decide +kernel
theorem d14 : decode yB 14 = .ok (.iload 4, 2) := by decide +kernel
theorem d16 : decode yB 16 = .ok (.iload_n 2, 1) := by decide +kernel
theorem d17 : decode yB 17 = .ok (.if_icmp (.eq) 40, 3) := by decide +kernel
theorem d57 : decode yB 57 = .ok (.aload_n 3, 1) := by decide +kernel
theorem d58 : decode yB 58 = .ok (.areturn, 1) := by decide +kernel
def site : List Cond := [.arrayClass .byte, Cmp5.tab] ++ staticW U16 115 Cmp5.yN
def tab : Cond := tabOf yN yB 6 (some (.array .byte)) site
def P (b : Addr) (A : Cell) (o len : Nat) (args : Array Value) (s : State) : Prop := args = #[.ref b, .int (Int32.ofNat o), .int (Int32.ofNat len)] ∧ Ch b A s ∧ o + len ≤ A.slots.size ∧ len ≤ 536870912 ∧ ∀ i, i < len → ¬ 255 < cv A (o + i)
def E (b : Addr) (A : Cell) (o len : Nat) (r : Option Value) (s u : State) : Prop := NewArr .byte "[B" len (fun j => .int (lo8 (cv A (o + j)))) r s u ∧ u.heap.size = s.heap.size + 1
/-- no char of the range above 255: a new byte[] of their low bytes -/
theorem law (l : Launch) (b : Addr) (A : Cell) (o len : Nat) : Law l yN 3 3 1 18 yB 6 (some (.array .byte)) site (P b A o len) (E b A o len) [] 1 len := by
  refine Law.of_walk (plainFor_of_name (by decide +kernel)) (by decide +kernel) (by decide +kernel) (by decide) (fun _ _ h => by rw [h.1]; rfl) (fun _ U U' hal hh h => ⟨h.1, h.2.1.mv hal hh, h.2.2⟩) (fun r U U' V V' h1 hal h2 h => ⟨NewArr.mv r U U' V V' h1 hal h2 h.1, by rw [h1, h2]; exact h.2⟩) ?_
  intro p e s m args below meth c s₁ X0 hexec hbytes hml hret hlk hnm hown hh0 W hP
  obtain ⟨rfl, hA, l1, l2, hp⟩ := hP
  have a31 := hA.1.2.2.2
  have c1 : Steps p.tables e below (s₁.setTop (entryFrame m #[.ref b, .int (Int32.ofNat o), .int (Int32.ofNat len)] 6)) (s₁.setTop (mkF m 0 #[.val (.ref b), .val (.int (Int32.ofNat o)), .val (.int (Int32.ofNat len)), .unset, .unset, .unset] [])) := entry rfl
  have c2 : Steps p.tables e below (s₁.setTop (entryFrame m #[.ref b, .int (Int32.ofNat o), .int (Int32.ofNat len)] 6)) (s₁.setTop (mkF m 1 #[.val (.ref b), .val (.int (Int32.ofNat o)), .val (.int (Int32.ofNat len)), .unset, .unset, .unset] [.int (Int32.ofNat len)])) := c1.trans (by
    refine XS.iloadN X0.here hexec rfl (hb hbytes d0) rfl ?_
    exact Steps.refl _)
  obtain ⟨T3, B3, X3, ba3, bs3, bv3, bh3, bf3, st3⟩ := X0.anew hexec (atype := .byte) (wk W (.arrayClass .byte)) rfl (by show len * 1 ≤ _; omega) (by omega) (g := (mkF m 1 #[.val (.ref b), .val (.int (Int32.ofNat o)), .val (.int (Int32.ofNat len)), .unset, .unset, .unset] [.int (Int32.ofNat len)])) rfl (hb hbytes d1) (rest := []) rfl (Nat.le_refl _) (by show 0 + len ≤ len; omega)
  rw [hh0] at ba3 st3
  have kp3 : XT.Kept s T3 := (XT.Kept.of_eq hh0).push bh3
  have hA3 := hA.keep X3.warmed.alike (kp3 _ _ hA.1.1)
  have hne : b ≠ s.heap.size := hA.1.ne
  have c4 : Steps p.tables e below (s₁.setTop (entryFrame m #[.ref b, .int (Int32.ofNat o), .int (Int32.ofNat len)] 6)) (T3.setTop (mkF m 3 #[.val (.ref b), .val (.int (Int32.ofNat o)), .val (.int (Int32.ofNat len)), .unset, .unset, .unset] [.ref s.heap.size])) := c2.trans (st3 _ (Steps.refl _))
  have c5 : Steps p.tables e below (s₁.setTop (entryFrame m #[.ref b, .int (Int32.ofNat o), .int (Int32.ofNat len)] 6)) (T3.setTop (mkF m 9 #[.val (.ref b), .val (.int (Int32.ofNat o)), .val (.int (Int32.ofNat len)), .val (.ref s.heap.size), .unset, .unset] [.int (Int32.ofNat len), .int 0, .ref s.heap.size, .int (Int32.ofNat o), .ref b])) := c4.trans (by
    refine XS.astoreN X3.here hexec rfl (hb hbytes d3) rfl rfl rfl ?_
    refine XS.aloadN X3.here hexec rfl (hb hbytes d4) rfl rfl ?_
    refine XS.iloadN X3.here hexec rfl (hb hbytes d5) rfl ?_
    refine XS.aloadN X3.here hexec rfl (hb hbytes d6) rfl rfl ?_
    refine iconstV X3.here hexec rfl 0 (hb hbytes d7) (by decide) ?_
    refine XS.iloadN X3.here hexec rfl (hb hbytes d8) rfl ?_
    exact Steps.refl _)
  obtain ⟨v6, T6, X6, E6, g6⟩ := X3.callS hexec (Cmp5.law l b A s.heap.size B3 o 0 len) hown (wks W (staticW U16 115 Cmp5.yN)) (wk W Cmp5.tab) (W := 0) (Nat.le_of_ble_eq_true rfl) (Nat.le_of_ble_eq_true rfl) (Nat.le_refl _) (by show 0 + len + 0 ≤ len; omega) (g := (mkF m 9 #[.val (.ref b), .val (.int (Int32.ofNat o)), .val (.int (Int32.ofNat len)), .val (.ref s.heap.size), .unset, .unset] [.int (Int32.ofNat len), .int (Int32.ofNat 0), .ref s.heap.size, .int (Int32.ofNat o), .ref b])) rfl (by rw [hml]; rfl) c5 (argsL := [.ref b, .int (Int32.ofNat o), .ref s.heap.size, .int (Int32.ofNat 0), .int (Int32.ofNat len)]) (rest := []) rfl rfl (by show 2 * 0 + 0 ≤ _; decide) (hb hbytes d9) (⟨rfl, hA3, ba3, hne, l1, by rw [bs3]; simp, hp⟩)
  obtain ⟨rfl, B6, p6, f6⟩ := E6
  have c7 : Steps p.tables e below (s₁.setTop (entryFrame m #[.ref b, .int (Int32.ofNat o), .int (Int32.ofNat len)] 6)) (T6.setTop (mkF m 12 #[.val (.ref b), .val (.int (Int32.ofNat o)), .val (.int (Int32.ofNat len)), .val (.ref s.heap.size), .unset, .unset] [.int (Int32.ofNat len)])) := g6
  have c8 : Steps p.tables e below (s₁.setTop (entryFrame m #[.ref b, .int (Int32.ofNat o), .int (Int32.ofNat len)] 6)) (T6.setTop (mkF m 58 #[.val (.ref b), .val (.int (Int32.ofNat o)), .val (.int (Int32.ofNat len)), .val (.ref s.heap.size), .val (.int (Int32.ofNat len)), .unset] [.ref s.heap.size])) := c7.trans (by
    refine XS.istore X6.here hexec rfl (hb hbytes d12) rfl rfl ?_
    refine XS.iload X6.here hexec rfl (hb hbytes d14) rfl ?_
    refine XS.iloadN X6.here hexec rfl (hb hbytes d16) rfl ?_
    refine XS.icmpYes X6.here hexec rfl (pc0 := 17) rfl (hb hbytes d17) rfl (ii_eq_t rfl) (by decide) rfl ?_
    refine XS.aloadN X6.here hexec rfl (hb hbytes d57) rfl rfl ?_
    exact Steps.refl _)
  have X8 := X6.wide (L' := []) (cells' := 1) (slots' := len) (fun x hx hlt => by
    simp only [List.nil_append, copyLocs, List.mem_map, List.mem_range] at hx
    obtain ⟨i, -, rfl⟩ := hx
    exact absurd hlt (Nat.lt_irrefl _)) (Nat.le_refl _) (by omega)
  exact ⟨T6, some (.ref s.heap.size), _, _, _, X8, rfl, rfl, rfl, (fun h => by cases h), ⟨⟨rfl, B6, ba3.like (X3.warmed.alike.symm.trans X6.warmed.alike) p6.1 f6.1 f6.2.1 f6.2.2.1, f6.2.1.trans bv3, by rw [X6.warmed.alike.findClass, f6.1]; exact bf3, by rw [f6.2.2.1, bs3]; simp, fun j hj => by rw [f6.2.2.2 j, if_pos (by omega)]; rfl, kp3.put p6 (Nat.le_refl _)⟩, by rw [p6.2.2, bh3, hh0]; simp⟩, fun fs hl => c8.trans (X8.areturnOut hexec rfl hret rfl (hb hbytes d58) hl)⟩
end Cmp3
namespace CodL
def yN : MethodName := ⟨"java/lang/StringUTF16", "coderFromArrayLen", "([BI)B"⟩
abbrev yB : ByteArray := jdk_52_method_15_code
theorem d0 : decode yB 0 = .ok (.iload_n 1, 1) := by decide +kernel
theorem d1 : decode yB 1 = .ok (.aload_n 0, 1) := by decide +kernel
theorem d2 : decode yB 2 = .ok (.arraylength, 1) := by decide +kernel
theorem d3 : decode yB 3 = .ok (.isub, 1) := by decide +kernel
theorem d4 : decode yB 4 = .ok (.bipush 31, 2) := by decide +kernel
theorem d6 : decode yB 6 = .ok (.iushr, 1) := by decide +kernel
theorem d7 : decode yB 7 = .ok (.i2b, 1) := by decide +kernel
theorem d8 : decode yB 8 = .ok (.ireturn, 1) := by decide +kernel
def site : List Cond := []
def tab : Cond := tabOf yN yB 2 (some .byte) site
def P (d : Addr) (B : Cell) (args : Array Value) (s : State) : Prop := args = #[.ref d, .int (Int32.ofNat B.slots.size)] ∧ Arr .byte d B s
def E (r : Option Value) (s u : State) : Prop := XT.PureE (some (.int 0)) r s u
/-- an array as long as the number of chars: LATIN1 -/
theorem law (l : Launch) (d : Addr) (B : Cell) : Law l yN 2 2 0 0 yB 2 (some .byte) site (P d B) E [] 0 0 := by
  refine Law.of_walk (plainFor_of_name (by decide +kernel)) (by decide +kernel) (by decide +kernel) (by decide) (fun _ _ h => by rw [h.1]; rfl) (fun _ U U' hal hh h => ⟨h.1, h.2.mv hal hh⟩) (fun r U U' V V' h1 hal h2 h => XT.PureE.mv r U U' V V' h1 hal h2 h) ?_
  intro p e s m args below meth c s₁ X0 hexec hbytes hml hret hlk hnm hown hh0 W hP
  obtain ⟨rfl, hB⟩ := hP
  have hB0 := hB.mv X0.warmed.alike hh0
  have c1 : Steps p.tables e below (s₁.setTop (entryFrame m #[.ref d, .int (Int32.ofNat B.slots.size)] 2)) (s₁.setTop (mkF m 0 #[.val (.ref d), .val (.int (Int32.ofNat B.slots.size))] [])) := entry rfl
  have c2 : Steps p.tables e below (s₁.setTop (entryFrame m #[.ref d, .int (Int32.ofNat B.slots.size)] 2)) (s₁.setTop (mkF m 2 #[.val (.ref d), .val (.int (Int32.ofNat B.slots.size))] [.ref d, .int (Int32.ofNat B.slots.size)])) := c1.trans (by
    refine XS.iloadN X0.here hexec rfl (hb hbytes d0) rfl ?_
    refine XS.aloadN X0.here hexec rfl (hb hbytes d1) rfl rfl ?_
    exact Steps.refl _)
  have c3 : Steps p.tables e below (s₁.setTop (entryFrame m #[.ref d, .int (Int32.ofNat B.slots.size)] 2)) (s₁.setTop (mkF m 8 #[.val (.ref d), .val (.int (Int32.ofNat B.slots.size))] [.int (lo8 (ushr (Int32.ofNat B.slots.size - Int32.ofNat B.slots.size) 31))])) := c2.trans (by
    refine X0.alen hexec hB0 rfl rfl (hb hbytes d2) ?_
    refine XS.isub X0.here hexec rfl (hb hbytes d3) rfl ?_
    refine bipushV X0.here hexec rfl 31 (hb hbytes d4) (by decide) ?_
    refine iushr X0.here hexec rfl (hb hbytes d6) rfl ?_
    refine i2b X0.here hexec rfl (hb hbytes d7) rfl ?_
    exact Steps.refl _)
  have e0 : lo8 (ushr (Int32.ofNat B.slots.size - Int32.ofNat B.slots.size) 31) = 0 := by rw [Int32.sub_self]; decide
  rw [e0] at c3
  exact ⟨s₁, some (.int 0), _, _, _, X0, rfl, rfl, rfl, (fun h => by cases h), ⟨rfl, hh0⟩, fun fs hl => c3.trans (X0.ireturnOut hexec hret rfl (Or.inr (Or.inr (Or.inl rfl))) (hb hbytes d8) hl)⟩
end CodL
/-- the String at a is Latin-1 over a new byte[] (the heap's one new cell): the low bytes of the len chars of A from o on; every cell but a is kept -/
def Got (a : Addr) (D : Cell) (fV fC : Field) (A : Cell) (o len : Nat) (r : Option Value) (s u : State) : Prop := r = none ∧ ∃ D' V : Cell, Blank "java/lang/String" a D' u ∧ Same D D' [fV.slot, fC.slot] ∧ D'.slots[fV.slot]? = some (.ref s.heap.size) ∧ D'.slots[fC.slot]? = some (.int 0) ∧ Arr .byte s.heap.size V u ∧ V.vm = .none ∧ u.vm.findClass "[B" = some V.cls ∧ V.slots.size = len ∧ (∀ j, j < len → V.slots[j]? = some (.int (lo8 (cv A (o + j))))) ∧ (∀ (y : Addr) (c : Cell), y ≠ a → s.heap[y]? = some c → u.heap[y]? = some c) ∧ u.heap.size = s.heap.size + 1
theorem Got.mv {a : Addr} {D A : Cell} {fV fC : Field} {o len : Nat} : ∀ r (U U' V V' : State), U'.heap = U.heap → V.vm.Alike V'.vm → V'.heap = V.heap → Got a D fV fC A o len r U V → Got a D fV fC A o len r U' V' :=
  fun r U U' V V' h1 hal h2 ⟨e0, D', X, a1, a2, a3, a4, a5, a6, a7, a8, a9, a10, a11⟩ => ⟨e0, D', X, a1.mv hal h2, a2, by rw [h1]; exact a3, a4, by rw [h1]; exact a5.mv hal h2, a6, by rw [hal.findClass]; exact a7, a8, a9, by rw [h1, h2]; exact a10, by rw [h1, h2]; exact a11⟩
namespace New4
def yN : MethodName := ⟨"java/lang/String", "<init>", "([CIILjava/lang/Void;)V"⟩
abbrev yB : ByteArray := jdk_42_method_149_code
theorem d0 : decode yB 0 = .ok (.aload_n 0, 1) := by decide +kernel
theorem d1 : decode yB 1 = .ok (.invokespecial 1, 3) := by decide +kernel
theorem d4 : decode yB 4 = .ok (.iload_n 3, 1) := by decide +kernel
theorem d5 : decode yB 5 = .ok (.ifCond (.ne) 22, 3) := by decide +kernel
theorem d27 : decode yB 27 = .ok (.getstatic 38, 3) := by decide +kernel
theorem d30 : decode yB 30 = .ok (.ifCond (.eq) 28, 3) := by decide +kernel
theorem d33 : decode yB 33 = .ok (.aload_n 1, 1) := by decide +kernel
theorem d34 : decode yB 34 = .ok (.iload_n 2, 1) := by decide +kernel
theorem d35 : decode yB 35 = .ok (.iload_n 3, 1) := by decide +kernel
theorem d36 : decode yB 36 = .ok (.invokestatic 177, 3) := by decide +kernel
theorem d39 : decode yB 39 = .ok (.astore 5, 2) := by decide +kernel
theorem d41 : decode yB 41 = .ok (.aload_n 0, 1) := by decide +kernel
theorem d42 : decode yB 42 = .ok (.aload 5, 2) := by decide +kernel
theorem d44 : decode yB 44 = .ok (.iload_n 3, 1) := by decide +kernel
theorem d45 : decode yB 45 = .ok (.invokestatic 47, 3) := by decide +kernel
theorem d48 : decode yB 48 = .ok (.putfield 15, 3) := by decide +kernel
theorem d51 : decode yB 51 = .ok (.aload_n 0, 1) := by decide +kernel
theorem d52 : decode yB 52 = .ok (.aload 5, 2) := by decide +kernel
theorem d54 : decode yB 54 = .ok (.putfield 9, 3) := by decide +kernel
theorem d57 : decode yB 57 = .ok (.return_, 1) := by decide +kernel
def site : List Cond := [.fieldLink "java/lang/String" 38 "java/lang/String" "COMPACT_STRINGS" "Z", Cmp3.tab, CodL.tab, .laysFinal "java/lang/String" "java/lang/String" "value" "[B", .fieldLink "java/lang/String" 9 "java/lang/String" "value" "[B", .laysFinal "java/lang/String" "java/lang/String" "coder" "B", .fieldLink "java/lang/String" 15 "java/lang/String" "coder" "B"] ++ objW "java/lang/String" 1 ++ staticW "java/lang/String" 177 Cmp3.yN ++ staticW "java/lang/String" 47 CodL.yN
def tab : Cond := tabOf yN yB 6 none site
def P (a : Addr) (D : Cell) (fV fC : Field) (b : Addr) (A : Cell) (z : Int32) (o len : Nat) (args : Array Value) (s : State) : Prop := args = #[.ref a, .ref b, .int (Int32.ofNat o), .int (Int32.ofNat len), .null] ∧ Blank "java/lang/String" a D s ∧ Found "java/lang/String" "value" "[B" fV s ∧ Found "java/lang/String" "coder" "B" fC s ∧ Ch b A s ∧ StaticIs s "java/lang/String" "COMPACT_STRINGS" "Z" (.int z) ∧ ¬ z = 0 ∧ 0 < len ∧ o + len ≤ A.slots.size ∧ len ≤ 536870912 ∧ ∀ i, i < len → ¬ 255 < cv A (o + i)
def E (a : Addr) (D : Cell) (fV fC : Field) (A : Cell) (o len : Nat) (r : Option Value) (s u : State) : Prop := Got a D fV fC A o len r s u
/-- len > 0, no char of the range above 255: a Latin-1 String of their low bytes -/
theorem law (l : Launch) (a : Addr) (D : Cell) (fV fC : Field) (b : Addr) (A : Cell) (z : Int32) (o len : Nat) : Law l yN 5 4 2 35 yB 6 none site (P a D fV fC b A z o len) (E a D fV fC A o len) [⟨a, fC.slot⟩, ⟨a, fV.slot⟩] 1 len := by
  refine Law.of_walk (plainFor_of_name (by decide +kernel)) (by decide +kernel) (by decide +kernel) (by decide) (fun _ _ h => by rw [h.1]; rfl) (fun _ U U' hal hh h => ⟨h.1, h.2.1.mv hal hh, h.2.2.1.al hal, h.2.2.2.1.al hal, h.2.2.2.2.1.mv hal hh, h.2.2.2.2.2.1.there hal hh, h.2.2.2.2.2.2⟩) (fun r U U' V V' h1 hal h2 h => Got.mv r U U' V V' h1 hal h2 h) ?_
  intro p e s m args below meth c s₁ X0 hexec hbytes hml hret hlk hnm hown hh0 W hP
  obtain ⟨rfl, hB, f1, f2, hA, s1, hz, l0, l1, l2, hp⟩ := hP
  have a31 := hA.1.2.2.2
  have c1 : Steps p.tables e below (s₁.setTop (entryFrame m #[.ref a, .ref b, .int (Int32.ofNat o), .int (Int32.ofNat len), .null] 6)) (s₁.setTop (mkF m 0 #[.val (.ref a), .val (.ref b), .val (.int (Int32.ofNat o)), .val (.int (Int32.ofNat len)), .val .null, .unset] [])) := entry rfl
  have c2 : Steps p.tables e below (s₁.setTop (entryFrame m #[.ref a, .ref b, .int (Int32.ofNat o), .int (Int32.ofNat len), .null] 6)) (s₁.setTop (mkF m 1 #[.val (.ref a), .val (.ref b), .val (.int (Int32.ofNat o)), .val (.int (Int32.ofNat len)), .val .null, .unset] [.ref a])) := c1.trans (by
    refine XS.aloadN X0.here hexec rfl (hb hbytes d0) rfl rfl ?_
    exact Steps.refl _)
  obtain ⟨T3, X3, q3, st3⟩ := X0.oinit hexec hown (wks W (objW "java/lang/String" 1)) (g := (mkF m 1 #[.val (.ref a), .val (.ref b), .val (.int (Int32.ofNat o)), .val (.int (Int32.ofNat len)), .val .null, .unset] [.ref a])) rfl (by rw [hml]; rfl) (rest := []) rfl (hb hbytes d1) (W := 0) (by show 2 * 0 + 0 ≤ _; decide) (Nat.le_of_ble_eq_true rfl) (Nat.le_of_ble_eq_true rfl)
  have hh3 := q3.trans hh0
  have c4 : Steps p.tables e below (s₁.setTop (entryFrame m #[.ref a, .ref b, .int (Int32.ofNat o), .int (Int32.ofNat len), .null] 6)) (T3.setTop (mkF m 27 #[.val (.ref a), .val (.ref b), .val (.int (Int32.ofNat o)), .val (.int (Int32.ofNat len)), .val .null, .unset] [])) := (c2.trans (st3 _ (Steps.refl _))).trans (by
    refine XS.iloadN X3.here hexec rfl (hb hbytes d4) rfl ?_
    refine XS.ifYes X3.here hexec rfl (pc0 := 5) rfl (hb hbytes d5) rfl (i0_ne_t (nz32 (by omega) l0)) (by decide) rfl ?_
    exact Steps.refl _)
  obtain ⟨T5, X5, q5, st5⟩ := X3.sget hexec hown (wk W (.fieldLink "java/lang/String" 38 "java/lang/String" "COMPACT_STRINGS" "Z")) s1 (fun _ _ h => by rw [hh3]; exact h) (g := (mkF m 27 #[.val (.ref a), .val (.ref b), .val (.int (Int32.ofNat o)), .val (.int (Int32.ofNat len)), .val .null, .unset] [])) rfl (hb hbytes d27)
  have hh5 := q5.trans hh3
  have c6 : Steps p.tables e below (s₁.setTop (entryFrame m #[.ref a, .ref b, .int (Int32.ofNat o), .int (Int32.ofNat len), .null] 6)) (T5.setTop (mkF m 30 #[.val (.ref a), .val (.ref b), .val (.int (Int32.ofNat o)), .val (.int (Int32.ofNat len)), .val .null, .unset] [.int z])) := c4.trans (st5 _ (Steps.refl _))
  have c7 : Steps p.tables e below (s₁.setTop (entryFrame m #[.ref a, .ref b, .int (Int32.ofNat o), .int (Int32.ofNat len), .null] 6)) (T5.setTop (mkF m 36 #[.val (.ref a), .val (.ref b), .val (.int (Int32.ofNat o)), .val (.int (Int32.ofNat len)), .val .null, .unset] [.int (Int32.ofNat len), .int (Int32.ofNat o), .ref b])) := c6.trans (by
    refine XS.ifNo X5.here hexec rfl (hb hbytes d30) rfl (i0_eq_f hz) ?_
    refine XS.aloadN X5.here hexec rfl (hb hbytes d33) rfl rfl ?_
    refine XS.iloadN X5.here hexec rfl (hb hbytes d34) rfl ?_
    refine XS.iloadN X5.here hexec rfl (hb hbytes d35) rfl ?_
    exact Steps.refl _)
  obtain ⟨v8, T8, X8, E8, g8⟩ := X5.callS hexec (Cmp3.law l b A o len) hown (wks W (staticW "java/lang/String" 177 Cmp3.yN)) (wk W Cmp3.tab) (W := 0) (Nat.le_of_ble_eq_true rfl) (Nat.le_of_ble_eq_true rfl) (Nat.le_refl _) (by show 0 + len ≤ len; omega) (g := (mkF m 36 #[.val (.ref a), .val (.ref b), .val (.int (Int32.ofNat o)), .val (.int (Int32.ofNat len)), .val .null, .unset] [.int (Int32.ofNat len), .int (Int32.ofNat o), .ref b])) rfl (by rw [hml]; rfl) c7 (argsL := [.ref b, .int (Int32.ofNat o), .int (Int32.ofNat len)]) (rest := []) rfl rfl (by show 2 * 0 + 0 ≤ _; decide) (hb hbytes d36) (⟨rfl, hA.mv X5.warmed.alike hh5, l1, l2, hp⟩)
  obtain ⟨e8, z8⟩ := E8
  obtain ⟨rfl, N, n1, n2, n3, n4, n5, n6⟩ := NewArr.mv _ T5 s _ _ hh5.symm (Vm.Alike.refl _) rfl e8
  rw [hh5] at z8
  have hB1 := hB.keep X8.warmed.alike (n6 _ _ hB.1)
  have hne : s.heap.size ≠ a := (Nat.ne_of_lt (Array.getElem?_eq_some_iff.mp hB.1).1).symm
  have c9 : Steps p.tables e below (s₁.setTop (entryFrame m #[.ref a, .ref b, .int (Int32.ofNat o), .int (Int32.ofNat len), .null] 6)) (T8.setTop (mkF m 39 #[.val (.ref a), .val (.ref b), .val (.int (Int32.ofNat o)), .val (.int (Int32.ofNat len)), .val .null, .unset] [.ref s.heap.size])) := g8
  have c10 : Steps p.tables e below (s₁.setTop (entryFrame m #[.ref a, .ref b, .int (Int32.ofNat o), .int (Int32.ofNat len), .null] 6)) (T8.setTop (mkF m 45 #[.val (.ref a), .val (.ref b), .val (.int (Int32.ofNat o)), .val (.int (Int32.ofNat len)), .val .null, .val (.ref s.heap.size)] [.int (Int32.ofNat N.slots.size), .ref s.heap.size, .ref a])) := by
    have hc : Steps p.tables e below (s₁.setTop (entryFrame m #[.ref a, .ref b, .int (Int32.ofNat o), .int (Int32.ofNat len), .null] 6)) (T8.setTop (mkF m 45 #[.val (.ref a), .val (.ref b), .val (.int (Int32.ofNat o)), .val (.int (Int32.ofNat len)), .val .null, .val (.ref s.heap.size)] [.int (Int32.ofNat len), .ref s.heap.size, .ref a])) := c9.trans (by
      refine XS.astore X8.here hexec rfl (hb hbytes d39) rfl rfl rfl ?_
      refine XS.aloadN X8.here hexec rfl (hb hbytes d41) rfl rfl ?_
      refine XS.aload X8.here hexec rfl (hb hbytes d42) rfl rfl ?_
      refine XS.iloadN X8.here hexec rfl (hb hbytes d44) rfl ?_
      exact Steps.refl _)
    rw [n4]; exact hc
  obtain ⟨v11, T11, X11, E11, g11⟩ := X8.callS hexec (CodL.law l s.heap.size N) hown (wks W (staticW "java/lang/String" 47 CodL.yN)) (wk W CodL.tab) (W := 1) (Nat.le_of_ble_eq_true rfl) (Nat.le_of_ble_eq_true rfl) (Nat.le_refl _) (by show 0 + len + 0 ≤ len; omega) (g := (mkF m 45 #[.val (.ref a), .val (.ref b), .val (.int (Int32.ofNat o)), .val (.int (Int32.ofNat len)), .val .null, .val (.ref s.heap.size)] [.int (Int32.ofNat N.slots.size), .ref s.heap.size, .ref a])) rfl (by rw [hml]; rfl) c10 (argsL := [.ref s.heap.size, .int (Int32.ofNat N.slots.size)]) (rest := [.ref a]) rfl rfl (by show 2 * 0 + (1 + 0) ≤ _; decide) (hb hbytes d45) (⟨rfl, n1⟩)
  obtain ⟨rfl, q11⟩ := E11
  have hB11 := hB1.mv (X8.warmed.alike.symm.trans X11.warmed.alike) q11
  have c12 : Steps p.tables e below (s₁.setTop (entryFrame m #[.ref a, .ref b, .int (Int32.ofNat o), .int (Int32.ofNat len), .null] 6)) (T11.setTop (mkF m 48 #[.val (.ref a), .val (.ref b), .val (.int (Int32.ofNat o)), .val (.int (Int32.ofNat len)), .val .null, .val (.ref s.heap.size)] [.int 0, .ref a])) := g11
  obtain ⟨T13, X13, p13, bl13, sl13, st13⟩ := X11.finit hexec hown (wk W (.fieldLink "java/lang/String" 15 "java/lang/String" "coder" "B")) (Or.inr ⟨_, (wk W (.laysFinal "java/lang/String" "java/lang/String" "coder" "B"))⟩) (Or.inl ⟨rfl, hnm⟩) f2 (Or.inl rfl) hB11 (t := .byte) (by decide +kernel) rfl (g := (mkF m 48 #[.val (.ref a), .val (.ref b), .val (.int (Int32.ofNat o)), .val (.int (Int32.ofNat len)), .val .null, .val (.ref s.heap.size)] [.int 0, .ref a])) rfl (rest := []) rfl (hb hbytes d48)
  have c14 : Steps p.tables e below (s₁.setTop (entryFrame m #[.ref a, .ref b, .int (Int32.ofNat o), .int (Int32.ofNat len), .null] 6)) (T13.setTop (mkF m 54 #[.val (.ref a), .val (.ref b), .val (.int (Int32.ofNat o)), .val (.int (Int32.ofNat len)), .val .null, .val (.ref s.heap.size)] [.ref s.heap.size, .ref a])) := (c12.trans (st13 _ (Steps.refl _))).trans (by
    refine XS.aloadN X13.here hexec rfl (hb hbytes d51) rfl rfl ?_
    refine XS.aload X13.here hexec rfl (hb hbytes d52) rfl rfl ?_
    exact Steps.refl _)
  obtain ⟨T15, X15, p15, bl15, sl15, st15⟩ := X13.finit hexec hown (wk W (.fieldLink "java/lang/String" 9 "java/lang/String" "value" "[B")) (Or.inr ⟨_, (wk W (.laysFinal "java/lang/String" "java/lang/String" "value" "[B"))⟩) (Or.inl ⟨rfl, hnm⟩) f1 (Or.inl rfl) bl13 (t := (.array .byte)) (by decide +kernel) rfl (g := (mkF m 54 #[.val (.ref a), .val (.ref b), .val (.int (Int32.ofNat o)), .val (.int (Int32.ofNat len)), .val .null, .val (.ref s.heap.size)] [.ref s.heap.size, .ref a])) rfl (rest := []) rfl (hb hbytes d54)
  have c16 : Steps p.tables e below (s₁.setTop (entryFrame m #[.ref a, .ref b, .int (Int32.ofNat o), .int (Int32.ofNat len), .null] 6)) (T15.setTop (mkF m 57 #[.val (.ref a), .val (.ref b), .val (.int (Int32.ofNat o)), .val (.int (Int32.ofNat len)), .val .null, .val (.ref s.heap.size)] [])) := c14.trans (st15 _ (Steps.refl _))
  have ap := apart (Or.inr ⟨_, (wk W (.laysFinal "java/lang/String" "java/lang/String" "value" "[B"))⟩) (Or.inr ⟨_, (wk W (.laysFinal "java/lang/String" "java/lang/String" "coder" "B"))⟩) f1 f2 (t₁ := .array .byte) (t₂ := .byte) (by decide +kernel) (by decide +kernel) (by decide)
  have al := X8.warmed.alike.symm.trans X15.warmed.alike
  have n7 : T11.heap[s.heap.size]? = some N := by rw [q11]; exact n1.1
  exact ⟨T15, none, _, _, _, X15, by simp, rfl, by omega, (fun _ => rfl), ⟨rfl, _, N, bl15, ((Same.refl D _).set _ (by simp)).set _ (by simp), sl15, (Cell.slots_setSlot_ne _ ap).trans sl13, n1.keep al (p15.other hne (p13.other hne n7)), n2, by rw [al.findClass]; exact n3, n4, n5, fun y c h1 h2 => p15.other h1 (p13.other h1 (by rw [q11]; exact n6 y c h2)), by rw [p15.2.2, p13.2.2, q11]; exact z8⟩, fun fs hl => c16.trans (X15.returnOut hexec hret (hb hbytes d57) hl)⟩
end New4
namespace New1
def yN : MethodName := ⟨"java/lang/String", "<init>", "([C)V"⟩
abbrev yB : ByteArray := jdk_42_method_3_code
theorem d0 : decode yB 0 = .ok (.aload_n 0, 1) := by decide +kernel
theorem d1 : decode yB 1 = .ok (.aload_n 1, 1) := by decide +kernel
theorem d2 : decode yB 2 = .ok (.iconst 0, 1) := by decide +kernel
theorem d3 : decode yB 3 = .ok (.aload_n 1, 1) := by decide +kernel
theorem d4 : decode yB 4 = .ok (.arraylength, 1) := by decide +kernel
theorem d5 : decode yB 5 = .ok (.aconst_null, 1) := by decide +kernel
theorem d6 : decode yB 6 = .ok (.invokespecial 27, 3) := by decide +kernel
theorem d9 : decode yB 9 = .ok (.return_, 1) := by decide +kernel
def site : List Cond := [New4.tab] ++ initW "java/lang/String" 27 New4.yN
def tab : Cond := tabOf yN yB 2 none site
def P (a : Addr) (D : Cell) (fV fC : Field) (b : Addr) (A : Cell) (z : Int32) (args : Array Value) (s : State) : Prop := args = #[.ref a, .ref b] ∧ Blank "java/lang/String" a D s ∧ Found "java/lang/String" "value" "[B" fV s ∧ Found "java/lang/String" "coder" "B" fC s ∧ Ch b A s ∧ StaticIs s "java/lang/String" "COMPACT_STRINGS" "Z" (.int z) ∧ ¬ z = 0 ∧ 0 < A.slots.size ∧ A.slots.size ≤ 536870912 ∧ ∀ i, i < A.slots.size → ¬ 255 < cv A i
def E (a : Addr) (D : Cell) (fV fC : Field) (A : Cell) (r : Option Value) (s u : State) : Prop := Got a D fV fC A 0 A.slots.size r s u
/-- new String(chars), not empty, no char above 255: a Latin-1 String of their low bytes -/
theorem law (l : Launch) (a : Addr) (D : Cell) (fV fC : Field) (b : Addr) (A : Cell) (z : Int32) : Law l yN 2 1 3 52 yB 2 none site (P a D fV fC b A z) (E a D fV fC A) [⟨a, fC.slot⟩, ⟨a, fV.slot⟩] 1 A.slots.size := by
  refine Law.of_walk (plainFor_of_name (by decide +kernel)) (by decide +kernel) (by decide +kernel) (by decide) (fun _ _ h => by rw [h.1]; rfl) (fun _ U U' hal hh h => ⟨h.1, h.2.1.mv hal hh, h.2.2.1.al hal, h.2.2.2.1.al hal, h.2.2.2.2.1.mv hal hh, h.2.2.2.2.2.1.there hal hh, h.2.2.2.2.2.2⟩) (fun r U U' V V' h1 hal h2 h => Got.mv r U U' V V' h1 hal h2 h) ?_
  intro p e s m args below meth c s₁ X0 hexec hbytes hml hret hlk hnm hown hh0 W hP
  obtain ⟨rfl, hB, f1, f2, hA, s1, hz, l0, l2, hp⟩ := hP
  have c1 : Steps p.tables e below (s₁.setTop (entryFrame m #[.ref a, .ref b] 2)) (s₁.setTop (mkF m 0 #[.val (.ref a), .val (.ref b)] [])) := entry rfl
  have c2 : Steps p.tables e below (s₁.setTop (entryFrame m #[.ref a, .ref b] 2)) (s₁.setTop (mkF m 6 #[.val (.ref a), .val (.ref b)] [.null, .int (Int32.ofNat A.slots.size), .int 0, .ref b, .ref a])) := c1.trans (by
    refine XS.aloadN X0.here hexec rfl (hb hbytes d0) rfl rfl ?_
    refine XS.aloadN X0.here hexec rfl (hb hbytes d1) rfl rfl ?_
    refine iconstV X0.here hexec rfl 0 (hb hbytes d2) (by decide) ?_
    refine XS.aloadN X0.here hexec rfl (hb hbytes d3) rfl rfl ?_
    refine X0.alen hexec (hA.1.mv X0.warmed.alike hh0) rfl rfl (hb hbytes d4) ?_
    refine XS.aconstNull X0.here hexec rfl (hb hbytes d5) ?_
    exact Steps.refl _)
  obtain ⟨v3, T3, X3, E3, g3⟩ := X0.callN hexec (New4.law l a D fV fC b A z 0 A.slots.size) rfl hown (wks W (initW "java/lang/String" 27 New4.yN)) (W New4.tab (by simp only [site, List.mem_cons, List.mem_append, true_or, or_true])) (W := 0) (Nat.le_of_ble_eq_true rfl) (Nat.le_of_ble_eq_true rfl) (Nat.le_refl _) (by show 0 + A.slots.size ≤ A.slots.size; omega) (g := (mkF m 6 #[.val (.ref a), .val (.ref b)] [.null, .int (Int32.ofNat A.slots.size), .int (Int32.ofNat 0), .ref b, .ref a])) rfl (by rw [hml]; rfl) c2 (argsL := [.ref b, .int (Int32.ofNat 0), .int (Int32.ofNat A.slots.size), .null]) (rest := []) rfl rfl (by show 2 * 0 + 0 ≤ _; decide) (hb hbytes d6) (⟨rfl, hB.mv X0.warmed.alike hh0, f1.al X0.warmed.alike, f2.al X0.warmed.alike, hA.mv X0.warmed.alike hh0, s1.there X0.warmed.alike hh0, hz, l0, by omega, l2, fun i hi => by rw [Nat.zero_add]; exact hp i hi⟩)
  have e0 := Got.mv _ s₁ s _ _ hh0.symm (Vm.Alike.refl _) rfl E3
  obtain rfl := e0.1
  have c4 : Steps p.tables e below (s₁.setTop (entryFrame m #[.ref a, .ref b] 2)) (T3.setTop (mkF m 9 #[.val (.ref a), .val (.ref b)] [])) := g3
  exact ⟨T3, none, _, _, _, X3, by simp, rfl, by omega, (fun _ => rfl), e0, fun fs hl => c4.trans (X3.returnOut hexec hret (hb hbytes d9) hl)⟩
theorem pays {l : Launch} {R : Room} {p : Program} {e : Env} {below : List Frame} {s : State} {sargs : Array Value} {len W : Nat} (a : Addr) (D : Cell) (fV fC : Field) (b : Addr) (A : Cell) (z : Int32) (htab : tab.before sargs s = true) (hfr : 4 ≤ R.frames) (hlo : W + 65 ≤ R.locals) :
    Back l R p e below s sargs yN len W (fun A₁ a₁ => A₁.cells + 1 ≤ R.cells ∧ A₁.slots + A.slots.size ≤ R.slots ∧ P a D fV fC b A z a₁ A₁.U) (fun A₁ _ v₁ B₁ => E a D fV fC A v₁ A₁.U B₁.U ∧ B₁.locs = A₁.locs ++ [⟨a, fC.slot⟩, ⟨a, fV.slot⟩] ∧ B₁.cells = A₁.cells + 1 ∧ B₁.slots = A₁.slots + A.slots.size) :=
  (law l a D fV fC b A z).pays htab hfr (by omega)
end New1
/-- the byte, read back as charAt reads it, is the char -/
theorem lo8_mask {x : Int32} (h0 : ¬ x < 0) (h1 : ¬ 255 < x) : lo8 x &&& 255 = x := by
  have t : ∀ k : Fin 256, lo8 (Int32.ofNat k.val) &&& 255 = Int32.ofNat k.val := by decide +kernel
  rw [Int32.lt_iff_toInt_lt] at h0 h1
  have e0 : (0 : Int32).toInt = 0 := rfl
  have e1 : (255 : Int32).toInt = 255 := rfl
  obtain ⟨k, hk⟩ : ∃ k : Nat, x.toInt = k := ⟨x.toInt.toNat, by omega⟩
  have hx : x = Int32.ofNat k := Int32.toInt_inj.mp (by rw [hk, Int32.toInt_ofNat_small (by omega)])
  rw [hx]
  exact t ⟨k, by omega⟩
end StrChars
namespace StrChars.Road
open Jvm Sem ClassFile Op Lib Jvm.Stand Jvm.Free Jvm.Free.XT
open Jvm.Lib.Cold (StaticIs)
abbrev ST : String := "java/lang/String"
/-- every table word that New1's law asks, flat -/
abbrev words : List Jvm.Cond := [.code New1.yN New1.yB 2 none, .initialized ST, .methodLink ST 27 New4.yN, .instanceMethod New4.yN,
  .code New4.yN New4.yB 6 none, .fieldLink ST 38 ST "COMPACT_STRINGS" "Z", .laysFinal ST ST "value" "[B", .fieldLink ST 9 ST "value" "[B", .laysFinal ST ST "coder" "B", .fieldLink ST 15 ST "coder" "B",
  .methodLink ST 1 Lib.objectInit, .instanceMethod Lib.objectInit, .code Lib.objectInit ⟨#[0xb1]⟩ 1 none, .methodLink ST 177 Cmp3.yN, .static Cmp3.yN, .methodLink ST 47 CodL.yN, .static CodL.yN,
  .code Cmp3.yN Cmp3.yB 6 (some (.array .byte)), .initialized U16, .arrayClass .byte, .methodLink U16 115 Cmp5.yN, .static Cmp5.yN, .code Cmp5.yN Cmp5.yB 7 (some .int), .code CodL.yN CodL.yB 2 (some .byte)]
theorem tab_of {a : Array Value} {s : State} (h : ∀ w ∈ words, w.before a s = true) : New1.tab.before a s = true := by
  have h5 : Cmp5.tab.before a s = true := unparts (wk h (.code Cmp5.yN Cmp5.yB 7 (some .int))) (wks h (.initialized Cmp5.yN.cls :: Cmp5.site))
  have hc : CodL.tab.before a s = true := unparts (wk h (.code CodL.yN CodL.yB 2 (some .byte))) (wks h (.initialized CodL.yN.cls :: CodL.site))
  have q5 : ∀ w ∈ Cmp5.tab :: words, w.before a s = true := fun w hw => (List.mem_cons.mp hw).elim (fun e => e ▸ h5) (h w)
  have h3 : Cmp3.tab.before a s = true := unparts (wk q5 (.code Cmp3.yN Cmp3.yB 6 (some (.array .byte)))) (wks q5 (.initialized Cmp3.yN.cls :: Cmp3.site))
  have q3 : ∀ w ∈ Cmp3.tab :: CodL.tab :: words, w.before a s = true := fun w hw => (List.mem_cons.mp hw).elim (fun e => e ▸ h3) fun hw => (List.mem_cons.mp hw).elim (fun e => e ▸ hc) (h w)
  have h4 : New4.tab.before a s = true := unparts (wk q3 (.code New4.yN New4.yB 6 none)) (wks q3 (.initialized New4.yN.cls :: New4.site))
  have q4 : ∀ w ∈ New4.tab :: words, w.before a s = true := fun w hw => (List.mem_cons.mp hw).elim (fun e => e ▸ h4) (h w)
  exact unparts (wk q4 (.code New1.yN New1.yB 2 none)) (wks q4 (.initialized New1.yN.cls :: New1.site))
/-- the words ride from the start Z to the walk's own state -/
theorem moved {Z s : State} {a0 args : Array Value} (hZ : Z.Warmed39 s.vm) (hw : ∀ d ∈ words, d.before a0 Z = true) : ∀ d ∈ words, d.before args s = true := fun d hd => by
  have q := hw d hd
  have t : ∀ d ∈ words, d = .arrayClass .byte ∨ (d.onTables && d.keepsFace) = true := by decide +kernel
  rcases t d hd with rfl | t
  · exact RoadKit.mvA hZ q
  · exact RoadKit.mv hZ q t
/-- WHAT COMES BACK, over the tables of the start Z: h the heap at the call, h' behind it -/
def Q (Z : State) (x : Addr) (A : Cell) (h : Heap) (v : Option Value) (h' : Heap) (L : List Loc) : Prop := v = none ∧ (∀ y ∈ L, y.base = x) ∧ RoadKit.Keep h h' [x] ∧ h'.size = h.size + 1 ∧ RoadKit.Exa Z h' x ST ∧ RoadKit.Fld Z h' x ST "value" "[B" (.ref h.size) ∧ RoadKit.Fld Z h' x ST "coder" "B" (.int 0) ∧
  (∃ V : Cell, RoadKit.Arr Z h' h.size V .byte ∧ V.vm = .none ∧ Z.vm.findClass "[B" = some V.cls ∧ V.slots.size = A.slots.size ∧ ∀ j, j < A.slots.size → V.slots[j]? = some (.int (lo8 (cv A j)))) ∧
  ∀ (O n d : String) (w : Value), RoadKit.Fld Z h x O n d w → RoadKit.slotOf Z O n d ≠ RoadKit.slotOf Z ST "value" "[B" → RoadKit.slotOf Z O n d ≠ RoadKit.slotOf Z ST "coder" "B" → RoadKit.Fld Z h' x O n d w
/-- **new String(chars) AT A CALL, IN THE ROAD'S FORM**: for specialBack behind newO: x the fresh String, b the char[] with the cell A -/
theorem back {p : Program} {l : Launch} {e : Env} {R : Room} {s : State} {args : Array Value} {below : List Frame} {len W : Nat} {Z : State} {a0 : Array Value} {h : Heap} (hZ : Z.Warmed39 s.vm) (hw : ∀ d ∈ words, d.before a0 Z = true) {kI : Nat} (wi : (Jvm.Cond.instantiable ST kI).before a0 Z = true)
    {x b : Addr} {A : Cell} {z : Int32} {v0 c0 : Value} (E : RoadKit.Exa Z h x ST) (V : RoadKit.Fld Z h x ST "value" "[B" v0) (C : RoadKit.Fld Z h x ST "coder" "B" c0) (K : RoadKit.Arr Z h b A .char) (hty : Typed .char A) (S : RoadKit.Sta Z h ST "COMPACT_STRINGS" "Z" (.int z)) (hz : ¬ z = 0)
    (l0 : 0 < A.slots.size) (l2 : A.slots.size ≤ 536870912) (hp : ∀ i, i < A.slots.size → ¬ 255 < cv A i) (hfr : 4 ≤ R.frames) (hlo : W + 65 ≤ R.locals) :
    Back l R p e below s args New1.yN len W (fun P a => a = #[.ref x, .ref b] ∧ P.U.heap = h ∧ P.cells + 1 ≤ R.cells ∧ P.slots + A.slots.size ≤ R.slots)
      (fun P _ v B => ∃ L, Q Z x A h v B.U.heap L ∧ B.locs = P.locs ++ L ∧ B.cells = P.cells + 1 ∧ B.slots = P.slots + A.slots.size) := by
  intro m meth c P g ig mk a X hg hsize hdg hW hn hp'
  obtain ⟨rfl, rfl, r1, r2⟩ := hp'
  have al : Z.vm.Alike P.U.vm := hZ.alike.trans X.warmed.alike
  obtain ⟨D, cfV, kV, iV, fV, hD, gV, stV, knV, obV, asV, slV⟩ := id V
  obtain ⟨D', cfC, kC, iC, fC, hD', gC, stC, -, -, asC, slC⟩ := id C
  cases hD.symm.trans hD'
  obtain ⟨D2, kD, e1, e2, e3, e4, e5⟩ := id E
  cases hD.symm.trans e1
  obtain ⟨c2, k2, i1, i2, i3, -⟩ := Cond.instantiable_spec wi
  cases e2.symm.trans i1
  cases e3.symm.trans i2
  obtain ⟨kU, u1, u2⟩ := al.2.2 _ _ e3
  have hB : Blank ST x D P.U := ⟨hD, ⟨knV, fun q hq => by rw [hq] at obV; cases obV⟩, by rw [al.findClass]; exact e2, kU, u1, by rw [u2]; exact i3, by rw [u2]; exact e5 i3⟩
  have F1 : Found ST "value" "[B" fV P.U := ⟨SBG.found_only al ⟨cfV, kV, iV, gV⟩, stV⟩
  have F2 : Found ST "coder" "B" fC P.U := ⟨SBG.found_only al ⟨cfC, kC, iC, gC⟩, stC⟩
  have hA : Ch b A P.U := ⟨⟨K.1, State.isArrayOf_alike al K.2.1, K.2.2, by omega⟩, hty⟩
  have hS : StaticIs P.U ST "COMPACT_STRINGS" "Z" (.int z) := by
    obtain ⟨cfS, iS, kS, fS, st, cS, t1, t2, t3, t4, t5, t6, t7⟩ := S
    exact StaticIs.there (s := { Z with heap := P.U.heap }) ⟨cfS, iS, kS, fS, st, cS, t1, t2, t3, t4, t5, (fun q => by rw [q] at t6; cases t6), t7⟩ al rfl
  obtain ⟨v, B, X', ⟨⟨hv, E', V', q1, q2, q3, q4, q5, q6, q7, q8, q9, q10, q11⟩, hl, hc, hs⟩, st⟩ := New1.pays x D fV fC b A z (tab_of (moved hZ hw)) hfr hlo m meth c P g ig mk _ X hg hsize hdg hW hn ⟨r1, r2, rfl, hB, F1, F2, hA, hS, hz, l0, l2, hp⟩
  have al' : Z.vm.Alike B.U.vm := hZ.alike.trans X'.warmed.alike
  have hsz : E'.slots.size = D.slots.size := by
    obtain ⟨-, -, -, kB, w1, w2, w3⟩ := q1
    obtain ⟨kB', y1, y2⟩ := al'.2.2 _ _ e3
    rw [q2.2.1] at w1
    cases w1.symm.trans y1
    rw [w3, e5 i3, y2]
  refine ⟨v, B, X', ⟨_, ⟨hv, ?_, ⟨by omega, fun y cy hy hn' => q10 y cy (by simpa using hn') hy, fun y cy hy => ?_⟩, q11, ⟨E', _, q1.1, by rw [q2.2.1]; exact e2, by rw [q2.2.1]; exact e3, by rw [q2.1]; exact obV, fun _ => by rw [hsz]; exact e5 i3⟩,
    ⟨E', cfV, kV, iV, fV, q1.1, gV, stV, by rw [q2.1]; exact knV, by rw [q2.1]; exact obV, by rw [q2.2.1]; exact asV, q3⟩, ⟨E', cfC, kC, iC, fC, q1.1, gC, stC, by rw [q2.1]; exact knV, by rw [q2.1]; exact obV, by rw [q2.2.1]; exact asC, q4⟩,
    ⟨V', ⟨q5.1, State.isArrayOf_alike al'.symm q5.2.1, q5.2.2.1⟩, q6, by rw [← al'.findClass]; exact q7, q8, fun j hj => by have := q9 j hj; rwa [Nat.zero_add] at this⟩, fun O n d w F n1 n2 => ?_⟩, hl, hc, hs⟩, st⟩
  · intro y hy
    simp only [List.mem_cons, List.not_mem_nil, or_false] at hy
    rcases hy with rfl | rfl <;> rfl
  · by_cases q : y = x
    · subst q
      cases hD.symm.trans hy
      exact ⟨E', q1.1, q2.2.1, q2.1, hsz⟩
    · exact ⟨cy, q10 y cy q hy, rfl, rfl, rfl⟩
  · obtain ⟨D3, cf, k, i, f, g1, g2, g3, g4, g5, g6, g7⟩ := F
    cases hD.symm.trans g1
    simp only [RoadKit.slotOf, g2, gV, gC, Option.map_some, Option.getD_some] at n1 n2
    exact ⟨E', cf, k, i, f, q1.1, g2, g3, by rw [q2.1]; exact g4, by rw [q2.1]; exact g5, by rw [q2.2.1]; exact g6, by rw [q2.2.2 f.slot (by simp [n1, n2])]; exact g7⟩
end StrChars.Road
namespace StrChars.Road
open Jvm Sem ClassFile Op Lib Jvm.Stand Jvm.Free Jvm.Free.XT
/-- WHAT COMES BACK, the byte[] as a list of values -/
def QA (Z : State) (x : Addr) (zn : Int32) (cs : List Int32) (h : Heap) (v : Option Value) (h' : Heap) (L : List Loc) : Prop := v = none ∧ (∀ y ∈ L, y.base = x) ∧ RoadKit.Keep h h' [x] ∧ h'.size = h.size + 1 ∧ RoadKit.Exa Z h' x ST ∧ RoadKit.Fld Z h' x ST "value" "[B" (.ref h.size) ∧ RoadKit.Fld Z h' x ST "coder" "B" (.int 0) ∧
  (∃ kb, Z.vm.findClass "[B" = some kb ∧ RoadKit.Arv Z h' h.size kb .byte zn (cs.map fun c => .int (lo8 c)) (.int 0)) ∧
  ∀ (O n d : String) (w : Value), RoadKit.Fld Z h x O n d w → RoadKit.slotOf Z O n d ≠ RoadKit.slotOf Z ST "value" "[B" → RoadKit.slotOf Z O n d ≠ RoadKit.slotOf Z ST "coder" "B" → RoadKit.Fld Z h' x O n d w
/-- **new String(chars) AT A CALL, THE ARRAYS AS LISTS**: the char[] at b holds cs, not empty, no char above 255 -/
theorem backArv {p : Program} {l : Launch} {e : Env} {R : Room} {s : State} {args : Array Value} {below : List Frame} {len W : Nat} {Z : State} {a0 : Array Value} {h : Heap} (hZ : Z.Warmed39 s.vm) (hw : ∀ d ∈ words, d.before a0 Z = true) {kI : Nat} (wi : (Jvm.Cond.instantiable ST kI).before a0 Z = true)
    {x b : Addr} {k : ClassId} {zn z : Int32} {cs : List Int32} {dv v0 c0 : Value} (E : RoadKit.Exa Z h x ST) (V : RoadKit.Fld Z h x ST "value" "[B" v0) (C : RoadKit.Fld Z h x ST "coder" "B" c0) (K : RoadKit.Arv Z h b k .char zn (cs.map Value.int) dv) (S : RoadKit.Sta Z h ST "COMPACT_STRINGS" "Z" (.int z)) (hz : ¬ z = 0)
    (hlen : zn.toNatClampNeg = cs.length) (h0 : 0 < cs.length) (hbig : cs.length ≤ 536870912) (hall : ∀ c ∈ cs, ¬ 255 < c) (hfr : 4 ≤ R.frames) (hlo : W + 65 ≤ R.locals) :
    Back l R p e below s args New1.yN len W (fun P a => a = #[.ref x, .ref b] ∧ P.U.heap = h ∧ P.cells + 1 ≤ R.cells ∧ P.slots + cs.length ≤ R.slots)
      (fun P _ v B => ∃ L, QA Z x zn cs h v B.U.heap L ∧ B.locs = P.locs ++ L ∧ B.cells = P.cells + 1 ∧ B.slots = P.slots + cs.length) := by
  obtain ⟨A, K1, K2, K3, K4, K5, K6⟩ := K
  have e : A.slots.size = cs.length := K3.trans hlen
  have hat : ∀ (i : Nat) (hi : i < cs.length), A.slots[i]? = some (.int cs[i]) := fun i hi => by rw [K5 i (by omega)]; simp [List.getD_eq_getElem?_getD, hi]
  have hcv : ∀ (i : Nat) (hi : i < cs.length), cv A i = cs[i] := fun i hi => by unfold cv; rw [hat i hi]
  have hty : Typed .char A := fun i v hv => by
    have hi : i < A.slots.size := (Array.getElem?_eq_some_iff.mp hv).1
    have q := K5 i hi
    rw [hv] at q
    rw [Option.some.inj q]
    exact K6 i hi
  refine Back.mono (back hZ hw wi E V C K1 hty S hz (by omega) (by omega) (fun i hi => by rw [hcv i (by omega)]; exact hall _ (List.getElem_mem _)) hfr hlo) (fun P a hp => ⟨hp.1, hp.2.1, hp.2.2.1, by rw [e]; exact hp.2.2.2⟩) (fun P a v B hp hq => ?_)
  obtain ⟨L, ⟨q1, q2, q3, q4, q5, q6, q7, ⟨V', v1, v2, v3, v4, v5⟩, q9⟩, hl, hc, hs⟩ := hq
  refine ⟨L, ⟨q1, q2, q3, q4, q5, q6, q7, ⟨V'.cls, v3, V', v1, rfl, by rw [v4, e, hlen], K4, fun i hi => ?_, fun i hi => ?_⟩, q9⟩, hl, hc, by rw [hs, e]⟩
  · have hi' : i < cs.length := by omega
    rw [v5 i (by omega), hcv i hi']; simp [List.getD_eq_getElem?_getD, hi']
  · have hi' : i < cs.length := by omega
    simp only [List.getD_eq_getElem?_getD, List.getElem?_map, List.getElem?_eq_getElem hi', Option.map_some, Option.getD_some]
    exact fits_lo8 _
end StrChars.Road
namespace StrChars.Road
open Jvm Sem ClassFile Op Lib Jvm.Stand Jvm.Free Jvm.Free.XT
/-- WHAT COMES BACK, in the writer's own shape -/
def QV (Z : State) (x : Addr) (N : Int32) (bs : List Int32) (h : Heap) (n0 : Nat) (v : Option Value) (h' : Heap) (L : List Loc) : Prop := v = none ∧ RoadKit.Fr n0 L ∧ RoadKit.Keep h h' [x] ∧ RoadKit.Exa Z h' x ST ∧ RoadKit.Fld Z h' x ST "coder" "B" (.int 0) ∧
  ∃ (t : Addr) (kb : ClassId), n0 ≤ t ∧ h.size ≤ t ∧ ¬ t = x ∧ RoadKit.Fld Z h' x ST "value" "[B" (.ref t) ∧ RoadKit.Arv Z h' t kb .byte N (bs.map Value.int) (.int 0)
/-- **new String(chars) AT A CALL, FOR THE WRITER**: a char[] of n known ints, each 0 to 255 -/
theorem backV {p : Program} {l : Launch} {e : Env} {R : Room} {s : State} {args : Array Value} {below : List Frame} {len W : Nat} {Z : State} {a0 : Array Value} {h : Heap} (hZ : Z.Warmed39 s.vm) (hw : ∀ d ∈ words, d.before a0 Z = true) {kI : Nat} (wi : (Jvm.Cond.instantiable ST kI).before a0 Z = true)
    {x b : Addr} {kC : ClassId} {cs bs : List Int32} {d v0 c0 : Value} {z N : Int32} {n n0 : Nat} (hx0 : n0 ≤ x) (hh0 : n0 ≤ h.size) (E : RoadKit.Exa Z h x ST) (V : RoadKit.Fld Z h x ST "value" "[B" v0) (C : RoadKit.Fld Z h x ST "coder" "B" c0) (K : RoadKit.Arv Z h b kC .char N (cs.map Value.int) d) (S : RoadKit.Sta Z h ST "COMPACT_STRINGS" "Z" (.int z)) (hz : ¬ z = 0)
    (hn : cs.length = n) (hN : N = Int32.ofNat n) (l0 : 0 < n) (l2 : n ≤ 4000) (hp : ∀ c ∈ cs, ¬ c < 0 ∧ ¬ (255 : Int32) < c) (hb : bs = cs.map (fun c => c.toInt8.toInt32)) (hfr : 4 ≤ R.frames) (hlo : W + 65 ≤ R.locals) :
    Back l R p e below s args (⟨"java/lang/String", "<init>", "([C)V"⟩ : MethodName) len W (fun P a => a = #[.ref x, .ref b] ∧ P.U.heap = h ∧ P.cells + 1 ≤ R.cells ∧ P.slots + n ≤ R.slots)
      (fun P _ v B => ∃ L, QV Z x N bs h n0 v B.U.heap L ∧ B.locs = P.locs ++ L ∧ B.cells = P.cells + 1 ∧ B.slots = P.slots + n) := by
  subst hn hN hb
  refine Back.mono (backArv hZ hw wi E V C K S hz (n32 (by omega)) l0 (by omega) (fun c hc => (hp c hc).2) hfr hlo) (fun P a hp => hp) (fun P a v B hp hq => ?_)
  obtain ⟨L, ⟨q1, q2, q3, q4, q5, q6, q7, ⟨kb, v1, v2⟩, q9⟩, hl, hc, hs⟩ := hq
  exact ⟨L, ⟨q1, fun y hy => by rw [q2 y hy]; exact hx0, q3, q5, q7, h.size, kb, hh0, Nat.le_refl _, Nat.ne_of_gt E.lt, q6, by rw [List.map_map]; exact v2⟩, hl, hc, hs⟩
end StrChars.Road
namespace StrChars
open Jvm Sem ClassFile Op Lib Jvm.Stand Jvm.Free.XT Jvm.Free.ALB Jvm.Free.JM Jvm.Free
open Jvm.Lib.Cold (StaticIs)
def hi8 (x : Int32) : Int32 := lo8 (x >>> ((8 : Int32) &&& 31))
/-- what StringUTF16.getChar makes of two bytes -/
def pairCh (u v : Int32) : Int32 := (((u &&& 255) <<< ((0 : Int32) &&& 31)) ||| ((v &&& 255) <<< ((8 : Int32) &&& 31))).toUInt32.toUInt16.toUInt32.toInt32
theorem lo8_and (x : Int32) : (lo8 x &&& 255).toBitVec.toNat = x.toBitVec.toNat % 256 := by
  have h : (lo8 x).toBitVec = (x.toBitVec.signExtend 8).signExtend 32 := by rw [lo8, Int8.toBitVec_toInt32, Int32.toBitVec_toInt8]
  rw [Int32.toBitVec_and, BitVec.toNat_and, h]
  have e : ((x.toBitVec.signExtend 8).signExtend 32).toNat % 256 = x.toBitVec.toNat % 256 := by
    rw [BitVec.toNat_signExtend]
    have hlt := x.toBitVec.isLt
    simp only [BitVec.toNat_setWidth, BitVec.toNat_signExtend]
    split <;> split <;> omega
  rw [← e]
  exact Nat.and_two_pow_sub_one_eq_mod _ 8
theorem pair_says {c : Int32} (h0 : ¬ c < 0) (h1 : ¬ 65535 < c) : pairCh (lo8 c) (hi8 c) = c := by
  rw [Int32.lt_iff_toInt_lt] at h0 h1
  have e0 : (0 : Int32).toInt = 0 := rfl
  have e1 : (65535 : Int32).toInt = 65535 := rfl
  have hc : c.toInt = c.toBitVec.toNat := by
    have := c.toBitVec.isLt
    have e : c.toInt = c.toBitVec.toInt := rfl
    rw [e] at h0 h1
    rw [e]
    rw [BitVec.toInt_eq_toNat_cond] at h0 h1 ⊢
    split at h0 <;> split <;> omega
  have hn : c.toBitVec.toNat < 65536 := by omega
  have a1 := lo8_and c
  have a2 : (hi8 c &&& 255).toBitVec.toNat = c.toBitVec.toNat / 256 := by
    rw [hi8, lo8_and]
    have e : ((8 : Int32) &&& 31) = 8 := by decide
    rw [e, Int32.toBitVec_shiftRight]
    have e2 : ((8 : Int32).toBitVec.smod 32) = 8#32 := by decide
    rw [e2, BitVec.sshiftRight_eq', BitVec.toNat_sshiftRight_of_msb_false (by rw [BitVec.msb_eq_false_iff_two_mul_lt]; omega)]
    show c.toBitVec.toNat >>> 8 % 256 = _
    rw [Nat.shiftRight_eq_div_pow]
    omega
  unfold pairCh
  apply Int32.toBitVec_inj.mp
  apply BitVec.eq_of_toNat_eq
  have f0 : ((0 : Int32) &&& 31) = 0 := by decide
  have f8 : ((8 : Int32) &&& 31) = 8 := by decide
  rw [f0, f8]
  have g : (((lo8 c &&& 255) <<< (0 : Int32)) ||| ((hi8 c &&& 255) <<< (8 : Int32))).toBitVec.toNat = c.toBitVec.toNat := by
    rw [Int32.toBitVec_or, Int32.toBitVec_shiftLeft, Int32.toBitVec_shiftLeft]
    have s0 : ((0 : Int32).toBitVec.smod 32) = 0#32 := by decide
    have s8 : ((8 : Int32).toBitVec.smod 32) = 8#32 := by decide
    rw [s0, s8, BitVec.toNat_or]
    simp only [BitVec.shiftLeft_eq', BitVec.toNat_shiftLeft, a1, a2]
    show (c.toBitVec.toNat % 256) <<< 0 % 2 ^ 32 ||| (c.toBitVec.toNat / 256) <<< 8 % 2 ^ 32 = _
    rw [Nat.shiftLeft_zero, Nat.mod_eq_of_lt (show c.toBitVec.toNat % 256 < 2 ^ 32 by omega), Nat.mod_eq_of_lt (show (c.toBitVec.toNat / 256) <<< 8 < 2 ^ 32 by rw [Nat.shiftLeft_eq]; omega), Nat.or_comm, ← Nat.shiftLeft_add_eq_or_of_lt (by omega), Nat.shiftLeft_eq]
    omega
  show BitVec.toNat (((((lo8 c &&& 255) <<< (0 : Int32)) ||| ((hi8 c &&& 255) <<< (8 : Int32))).toBitVec.setWidth 16).setWidth 32) = _
  rw [BitVec.toNat_setWidth, BitVec.toNat_setWidth, g]
  omega
end StrChars
namespace StrChars
open Jvm Sem ClassFile Op Lib Jvm.Stand Jvm.Free.XT Jvm.Free.ALB Jvm.Free.JM Jvm.Free
open Jvm.Lib.Cold (StaticIs)
/-- the array's cell V codes the n chars f 0 .. f (n - 1) by the coder cd, as the JDK does: coder 1 just where some char is above 255 -/
def Cod (cd : Int32) (n : Nat) (f : Nat → Int32) (V : Cell) : Prop := (cd = 0 ∧ V.slots.size = n ∧ ∀ j, j < n → V.slots[j]? = some (.int (lo8 (f j))) ∧ ¬ 255 < f j) ∨ (cd = 1 ∧ V.slots.size = 2 * n ∧ (∀ j, j < n → V.slots[2 * j]? = some (.int (lo8 (f j))) ∧ V.slots[2 * j + 1]? = some (.int (hi8 (f j)))) ∧ ∃ j, j < n ∧ 255 < f j)
/-- **x is a String of the n chars f 0 .. f (n - 1)**, Latin-1 or UTF-16; its array at t has the cell V -/
def Txt (x t : Addr) (V : Cell) (cd : Int32) (n : Nat) (f : Nat → Int32) (U : State) : Prop := Exact "java/lang/String" x U ∧ Has x "java/lang/String" "value" "[B" (.ref t) U ∧ Has x "java/lang/String" "coder" "B" (.int cd) U ∧ XT.Arr .byte t V U ∧ Cod cd n f V ∧ ∀ j, j < n → ¬ f j < 0 ∧ ¬ 65535 < f j
theorem Txt.mv {x t : Addr} {V : Cell} {cd : Int32} {n : Nat} {f : Nat → Int32} {U U' : State} (h : Txt x t V cd n f U) (hal : U.vm.Alike U'.vm) (hh : U'.heap = U.heap) : Txt x t V cd n f U' := ⟨h.1.mv hal hh, h.2.1.mv hal hh, h.2.2.1.mv hal hh, h.2.2.2.1.mv hal hh, h.2.2.2.2⟩
end StrChars
namespace StrChars.Road
open Jvm Sem ClassFile Op Lib Jvm.Stand Jvm.Free Jvm.Free.XT
open Jvm.Lib.Cold (StaticIs)
theorem consq {a : Array Value} {s : State} {c : Jvm.Cond} {L : List Jvm.Cond} (h0 : c.before a s = true) (h : ∀ w ∈ L, w.before a s = true) : ∀ w ∈ c :: L, w.before a s = true := fun w hw => (List.mem_cons.mp hw).elim (fun e => e ▸ h0) (h w)
/-- the bytes of the chars cs, low before high -/
def wideBytes : List Int32 → List Value
  | [] => []
  | c :: cs => .int (lo8 c) :: .int (hi8 c) :: wideBytes cs
theorem wide_lo (d : Value) : ∀ (cs : List Int32) (j : Nat), j < cs.length → (wideBytes cs).getD (2 * j) d = .int (lo8 (cs.getD j 0))
  | [], j, h => absurd h (Nat.not_lt_zero j)
  | c :: cs, 0, _ => rfl
  | c :: cs, j + 1, h => by
    have q := wide_lo d cs j (by simpa using h)
    rw [show 2 * (j + 1) = 2 * j + 1 + 1 from by omega]
    simpa [wideBytes] using q
theorem wide_hi (d : Value) : ∀ (cs : List Int32) (j : Nat), j < cs.length → (wideBytes cs).getD (2 * j + 1) d = .int (hi8 (cs.getD j 0))
  | [], j, h => absurd h (Nat.not_lt_zero j)
  | c :: cs, 0, _ => rfl
  | c :: cs, j + 1, h => by
    have q := wide_hi d cs j (by simpa using h)
    rw [show 2 * (j + 1) + 1 = 2 * j + 1 + 1 + 1 from by omega]
    simpa [wideBytes] using q
theorem low_at (d : Value) (cs : List Int32) (j : Nat) (h : j < cs.length) : (cs.map fun c => Value.int (lo8 c)).getD j d = .int (lo8 (cs.getD j 0)) := by
  simp [List.getD_eq_getElem?_getD, h]
/-- an array of N2 bytes vs codes the chars cs by the coder cd -/
def CodA (cs : List Int32) (cd N2 : Int32) (vs : List Value) : Prop := (cd = 0 ∧ N2 = Int32.ofNat cs.length ∧ vs = (cs.map fun c => Value.int (lo8 c)) ∧ ∀ c ∈ cs, ¬ 255 < c) ∨ (cd = 1 ∧ N2 = Int32.ofNat (2 * cs.length) ∧ vs = wideBytes cs ∧ ∃ c ∈ cs, 255 < c)
theorem CodA.cod {cs : List Int32} {cd N2 : Int32} {vs : List Value} {V : Cell} (h : CodA cs cd N2 vs) (hn : 2 * cs.length < 2 ^ 31) (hs : V.slots.size = N2.toNatClampNeg) (hv : RoadKit.Has V vs (.int 0)) : Cod cd cs.length (fun j => cs.getD j 0) V := by
  rcases h with ⟨rfl, rfl, rfl, h⟩ | ⟨rfl, rfl, rfl, c, hc, hw⟩
  · rw [n32 (by omega)] at hs
    exact Or.inl ⟨rfl, hs, fun j hj => ⟨by rw [hv j (by omega), low_at _ _ _ hj], by
      have e : cs.getD j 0 = cs[j] := by simp [List.getD_eq_getElem?_getD, hj]
      show ¬ 255 < cs.getD j 0
      rw [e]; exact h _ (List.getElem_mem _)⟩⟩
  · rw [n32 (by omega)] at hs
    obtain ⟨j, hj, rfl⟩ := List.getElem_of_mem hc
    exact Or.inr ⟨rfl, hs, fun j hj => ⟨by rw [hv _ (by omega), wide_lo _ _ _ hj], by rw [hv _ (by omega), wide_hi _ _ _ hj]⟩, j, hj, by
      have e : cs.getD j 0 = cs[j] := by simp [List.getD_eq_getElem?_getD, hj]
      show 255 < cs.getD j 0
      rw [e]; exact hw⟩
/-- an object of exactly java/lang/String, its two fields found: as the laws ask it -/
theorem strObj {Z U : State} {a0 : Array Value} {kI : Nat} (wi : (Jvm.Cond.instantiable ST kI).before a0 Z = true) (al : Z.vm.Alike U.vm) {x : Addr} {v0 c0 : Value} (E : RoadKit.Exa Z U.heap x ST) (V : RoadKit.Fld Z U.heap x ST "value" "[B" v0) (C : RoadKit.Fld Z U.heap x ST "coder" "B" c0) :
    ∃ (D : Cell) (fV fC : Field), Blank ST x D U ∧ Found ST "value" "[B" fV U ∧ Found ST "coder" "B" fC U ∧ D.slots[fV.slot]? = some v0 ∧ D.slots[fC.slot]? = some c0 ∧ RoadKit.slotOf Z ST "value" "[B" = fV.slot ∧ RoadKit.slotOf Z ST "coder" "B" = fC.slot := by
  obtain ⟨D, cfV, kV, iV, fV, hD, gV, stV, knV, obV, asV, slV⟩ := V
  obtain ⟨D', cfC, kC, iC, fC, hD', gC, stC, -, -, asC, slC⟩ := C
  cases hD.symm.trans hD'
  obtain ⟨D2, kD, e1, e2, e3, e4, e5⟩ := E
  cases hD.symm.trans e1
  obtain ⟨c2, k2, i1, i2, i3, -⟩ := Cond.instantiable_spec wi
  cases e2.symm.trans i1
  cases e3.symm.trans i2
  obtain ⟨kU, u1, u2⟩ := al.2.2 _ _ e3
  exact ⟨D, fV, fC, ⟨hD, ⟨knV, fun q hq => by rw [hq] at obV; cases obV⟩, by rw [al.findClass]; exact e2, kU, u1, by rw [u2]; exact i3, by rw [u2]; exact e5 i3⟩, ⟨SBG.found_only al ⟨cfV, kV, iV, gV⟩, stV⟩, ⟨SBG.found_only al ⟨cfC, kC, iC, gC⟩, stC⟩, slV, slC, by simp [RoadKit.slotOf, gV], by simp [RoadKit.slotOf, gC]⟩
theorem sta_is {Z U : State} (al : Z.vm.Alike U.vm) {C n d : String} {v : Value} (S : RoadKit.Sta Z U.heap C n d v) : StaticIs U C n d v := by
  obtain ⟨cfS, iS, kS, fS, st, cS, t1, t2, t3, t4, t5, t6, t7⟩ := S
  exact StaticIs.there (s := { Z with heap := U.heap }) ⟨cfS, iS, kS, fS, st, cS, t1, t2, t3, t4, t5, (fun q => by rw [q] at t6; cases t6), t7⟩ al rfl
end StrChars.Road
namespace StrChars
open Jvm Sem ClassFile Op Lib Jvm.Stand Jvm.Free.XT Jvm.Free.ALB Jvm.Free.JM Jvm.Free
open Jvm.Lib.Cold (StaticIs)
/-- what place i of a byte[]'s cell holds -/
def yv (A : Cell) (i : Nat) : Int32 := match A.slots[i]? with | some (.int x) => x | _ => 0
theorem yv_get {a : Addr} {A : Cell} {U : State} (h : XT.Arr .byte a A U) (ht : Typed .byte A) {i : Nat} (hi : i < A.slots.size) : A.slots[i]? = some (.int (yv A i)) := by
  have e := Array.getElem?_eq_getElem hi
  have f := ht i _ e
  unfold yv; rw [e]
  generalize A.slots[i] = v at f
  cases v <;> simp [fits] at f ⊢
/-- the two arrays are equal, place for place -/
def EqC (A B : Cell) : Prop := A.slots.size = B.slots.size ∧ ∀ i, i < A.slots.size → yv A i = yv B i
/-- a boolean that says whether p -/
def Says01 (q : Prop) (r : Option Value) (s u : State) : Prop := ∃ v : Int32, r = some (.int v) ∧ u.heap = s.heap ∧ ((v = 1 ∧ q) ∨ (v = 0 ∧ ¬ q))
theorem Says01.mv {q : Prop} : ∀ r (U U' V V' : State), U'.heap = U.heap → V.vm.Alike V'.vm → V'.heap = V.heap → Says01 q r U V → Says01 q r U' V' :=
  fun r U U' V V' h1 _ h2 ⟨v, a, b, c⟩ => ⟨v, a, by rw [h1, h2]; exact b, c⟩
namespace LEq
def yN : MethodName := ⟨"java/lang/StringLatin1", "equals", "([B[B)Z"⟩
abbrev yB : ByteArray := jdk_43_method_13_code
theorem d0 : decode yB 0 = .ok (.aload_n 0, 1) := by decide +kernel
theorem d1 : decode yB 1 = .ok (.arraylength, 1) := by decide +kernel
theorem d2 : decode yB 2 = .ok (.aload_n 1, 1) := by decide +kernel
theorem d3 : decode yB 3 = .ok (.arraylength, 1) := by decide +kernel
theorem d4 : decode yB 4 = .ok (.if_icmp (.ne) 30, 3) := by decide +kernel
theorem d7 : decode yB 7 = .ok (.iconst 0, 1) := by decide +kernel
theorem d8 : decode yB 8 = .ok (.istore_n 2, 1) := by decide +kernel
theorem d9 : decode yB 9 = .ok (.iload_n 2, 1) := by decide +kernel
theorem d10 : decode yB 10 = .ok (.aload_n 0, 1) := by decide +kernel
theorem d11 : decode yB 11 = .ok (.arraylength, 1) := by decide +kernel
theorem d12 : decode yB 12 = .ok (.if_icmp (.ge) 20, 3) := by decide +kernel
theorem d15 : decode yB 15 = .ok (.aload_n 0, 1) := by decide +kernel
theorem d16 : decode yB 16 = .ok (.iload_n 2, 1) := by decide +kernel
theorem d17 : decode yB 17 = .ok (.baload, 1) := by decide +kernel
theorem d18 : decode yB 18 = .ok (.aload_n 1, 1) := by decide +kernel
theorem d19 : decode yB 19 = .ok (.iload_n 2, 1) := by decide +kernel
theorem d20 : decode yB 20 = .ok (.baload, 1) := by decide +kernel
theorem d21 : decode yB 21 = .ok (.if_icmp (.eq) 5, 3) := by decide +kernel
theorem d24 : decode yB 24 = .ok (.iconst 0, 1) := by decide +kernel
theorem d25 : decode yB 25 = .ok (.ireturn, 1) := by decide +kernel
theorem d26 : decode yB 26 = .ok (.iinc 2 1, 3) := by decide +kernel
theorem d29 : decode yB 29 = .ok (.goto (-20), 3) := by decide +kernel
theorem d32 : decode yB 32 = .ok (.iconst 1, 1) := by decide +kernel
theorem d33 : decode yB 33 = .ok (.ireturn, 1) := by decide +kernel
theorem d34 : decode yB 34 = .ok (.iconst 0, 1) := by decide +kernel
theorem d35 : decode yB 35 = .ok (.ireturn, 1) := by decide +kernel
def site : List Cond := []
def tab : Cond := tabOf yN yB 3 (some .boolean) site
def P (a : Addr) (A : Cell) (b : Addr) (B : Cell) (args : Array Value) (s : State) : Prop := args = #[.ref a, .ref b] ∧ XT.Arr .byte a A s ∧ Typed .byte A ∧ XT.Arr .byte b B s ∧ Typed .byte B
/-- whether two byte[] are equal, place for place -/
theorem law (l : Launch) (a : Addr) (A : Cell) (b : Addr) (B : Cell) : Law l yN 2 2 0 0 yB 3 (some .boolean) site (P a A b B) (Says01 (EqC A B)) [] 0 0 := by
  refine Law.of_walk (plainFor_of_name (by decide +kernel)) (by decide +kernel) (by decide +kernel) (by decide) (fun _ _ h => by rw [h.1]; rfl) (fun _ U U' hal hh h => ⟨h.1, h.2.1.mv hal hh, h.2.2.1, h.2.2.2.1.mv hal hh, h.2.2.2.2⟩) (fun r U U' V V' h1 hal h2 h => Says01.mv r U U' V V' h1 hal h2 h) ?_
  intro p e s m args below meth c s₁ X0 hexec hbytes hml hret hlk hnm hown hh0 W hP
  obtain ⟨rfl, hA, tA, hB, tB⟩ := hP
  have a31 := hA.2.2.2
  have b31 := hB.2.2.2
  have hA0 := hA.mv X0.warmed.alike hh0
  have hB0 := hB.mv X0.warmed.alike hh0
  have c1 : Steps p.tables e below (s₁.setTop (entryFrame m #[.ref a, .ref b] 3)) (s₁.setTop (mkF m 0 #[.val (.ref a), .val (.ref b), .unset] [])) := entry rfl
  have c2 : Steps p.tables e below (s₁.setTop (entryFrame m #[.ref a, .ref b] 3)) (s₁.setTop (mkF m 4 #[.val (.ref a), .val (.ref b), .unset] [.int (Int32.ofNat B.slots.size), .int (Int32.ofNat A.slots.size)])) := c1.trans (by
    refine XS.aloadN X0.here hexec rfl (hb hbytes d0) rfl rfl ?_
    refine X0.alen hexec hA0 rfl rfl (hb hbytes d1) ?_
    refine XS.aloadN X0.here hexec rfl (hb hbytes d2) rfl rfl ?_
    refine X0.alen hexec hB0 rfl rfl (hb hbytes d3) ?_
    exact Steps.refl _)
  by_cases hs : A.slots.size = B.slots.size
  · have c3 : Steps p.tables e below (s₁.setTop (entryFrame m #[.ref a, .ref b] 3)) (s₁.setTop (mkF m 9 #[.val (.ref a), .val (.ref b), .val (.int 0)] [])) := c2.trans (by
      refine XS.icmpNo X0.here hexec rfl (hb hbytes d4) rfl (ii_ne_f (by rw [hs])) ?_
      refine iconstV X0.here hexec rfl 0 (hb hbytes d7) (by decide) ?_
      refine XS.istoreN X0.here hexec rfl (hb hbytes d8) rfl rfl ?_
      exact Steps.refl _)
    have loop : ∀ (r i : Nat), i + r = A.slots.size → (∀ j, j < i → yv A j = yv B j) → Steps p.tables e below (s₁.setTop (entryFrame m #[.ref a, .ref b] 3)) (s₁.setTop (mkF m 9 #[.val (.ref a), .val (.ref b), .val (.int (Int32.ofNat i))] [])) → ∃ (pc : Nat) (Ls : Array Slot) (v : Int32), (pc = 25 ∨ pc = 33) ∧ ((v = 1 ∧ EqC A B) ∨ (v = 0 ∧ ¬ EqC A B)) ∧ Steps p.tables e below (s₁.setTop (entryFrame m #[.ref a, .ref b] 3)) (s₁.setTop (mkF m pc Ls [.int v])) := by
      intro r
      induction r with
      | zero =>
        intro i hi he cl
        exact ⟨33, _, 1, Or.inr rfl, Or.inl ⟨rfl, hs, fun j hj => he j (by omega)⟩, cl.trans (by
          refine XS.iloadN X0.here hexec rfl (hb hbytes d9) rfl ?_
          refine XS.aloadN X0.here hexec rfl (hb hbytes d10) rfl rfl ?_
          refine X0.alen hexec hA0 rfl rfl (hb hbytes d11) ?_
          refine XS.icmpYes X0.here hexec rfl (pc0 := 12) rfl (hb hbytes d12) rfl (ii_ge_t (nlt32 (by omega) (by omega))) (by decide) rfl ?_
          refine iconstV X0.here hexec rfl 1 (hb hbytes d32) (by decide) ?_
          exact Steps.refl _)⟩
      | succ r ih =>
        intro i hi he cl
        have c4 : Steps p.tables e below (s₁.setTop (entryFrame m #[.ref a, .ref b] 3)) (s₁.setTop (mkF m 21 #[.val (.ref a), .val (.ref b), .val (.int (Int32.ofNat i))] [.int (yv B i), .int (yv A i)])) := cl.trans (by
          refine XS.iloadN X0.here hexec rfl (hb hbytes d9) rfl ?_
          refine XS.aloadN X0.here hexec rfl (hb hbytes d10) rfl rfl ?_
          refine X0.alen hexec hA0 rfl rfl (hb hbytes d11) ?_
          refine XS.icmpNo X0.here hexec rfl (hb hbytes d12) rfl (ii_ge_f (lt32 (by omega) (by omega))) ?_
          refine XS.aloadN X0.here hexec rfl (hb hbytes d15) rfl rfl ?_
          refine XS.iloadN X0.here hexec rfl (hb hbytes d16) rfl ?_
          refine X0.aget hexec hA0 rfl (yv_get hA tA (i := i) (by omega)) rfl rfl (hb hbytes d17) ?_
          refine XS.aloadN X0.here hexec rfl (hb hbytes d18) rfl rfl ?_
          refine XS.iloadN X0.here hexec rfl (hb hbytes d19) rfl ?_
          refine X0.aget hexec hB0 rfl (yv_get hB tB (i := i) (by omega)) rfl rfl (hb hbytes d20) ?_
          exact Steps.refl _)
        by_cases hv : yv A i = yv B i
        · have c5 : Steps p.tables e below (s₁.setTop (entryFrame m #[.ref a, .ref b] 3)) (s₁.setTop (mkF m 9 #[.val (.ref a), .val (.ref b), .val (.int (Int32.ofNat i + 1))] [])) := c4.trans (by
            refine XS.icmpYes X0.here hexec rfl (pc0 := 21) rfl (hb hbytes d21) rfl (ii_eq_t hv) (by decide) rfl ?_
            refine iincV X0.here hexec rfl 1 (hb hbytes d26) (by decide) rfl rfl ?_
            refine XS.goto X0.here hexec rfl (pc0 := 29) rfl (hb hbytes d29) (by decide) rfl ?_
            exact Steps.refl _)
          rw [succ32] at c5
          exact ih (i + 1) (by omega) (fun j hj => by
            by_cases e : j = i
            · rw [e]; exact hv
            · exact he j (by omega)) c5
        · exact ⟨25, _, 0, Or.inl rfl, Or.inr ⟨rfl, fun q => hv (q.2 i (by omega))⟩, c4.trans (by
            refine XS.icmpNo X0.here hexec rfl (hb hbytes d21) rfl (ii_eq_f hv) ?_
            refine iconstV X0.here hexec rfl 0 (hb hbytes d24) (by decide) ?_
            exact Steps.refl _)⟩
    obtain ⟨pc, Ls, v, hpc, hv, cz⟩ := loop A.slots.size 0 (by omega) (fun j hj => absurd hj (Nat.not_lt_zero j)) c3
    have nv : narrow .boolean (.int v) = .int v := by rcases hv with ⟨rfl, -⟩ | ⟨rfl, -⟩ <;> rfl
    rcases hpc with rfl | rfl
    · exact ⟨s₁, some (.int v), _, _, _, X0, rfl, rfl, rfl, (fun h => by cases h), ⟨v, rfl, hh0, hv⟩, fun fs hl => cz.trans (X0.ireturnOut hexec hret nv (Or.inr (Or.inl rfl)) (hb hbytes d25) hl)⟩
    · exact ⟨s₁, some (.int v), _, _, _, X0, rfl, rfl, rfl, (fun h => by cases h), ⟨v, rfl, hh0, hv⟩, fun fs hl => cz.trans (X0.ireturnOut hexec hret nv (Or.inr (Or.inl rfl)) (hb hbytes d33) hl)⟩
  · have c3 : Steps p.tables e below (s₁.setTop (entryFrame m #[.ref a, .ref b] 3)) (s₁.setTop (mkF m 35 #[.val (.ref a), .val (.ref b), .unset] [.int 0])) := c2.trans (by
      refine XS.icmpYes X0.here hexec rfl (pc0 := 4) rfl (hb hbytes d4) rfl (ii_ne_t (ne32 a31 b31 hs)) (by decide) rfl ?_
      refine iconstV X0.here hexec rfl 0 (hb hbytes d34) (by decide) ?_
      exact Steps.refl _)
    exact ⟨s₁, some (.int 0), _, _, _, X0, rfl, rfl, rfl, (fun h => by cases h), ⟨0, rfl, hh0, Or.inr ⟨rfl, fun q => hs q.1⟩⟩, fun fs hl => c3.trans (X0.ireturnOut hexec hret rfl (Or.inr (Or.inl rfl)) (hb hbytes d35) hl)⟩
end LEq
theorem Cod.ty {cd : Int32} {n : Nat} {f : Nat → Int32} {V : Cell} (h : Cod cd n f V) : Typed .byte V := fun i v hv => by
  have hi : i < V.slots.size := (Array.getElem?_eq_some_iff.mp hv).1
  rcases h with ⟨-, k1, k2⟩ | ⟨-, k1, k2, -⟩
  · rw [(k2 i (by omega)).1] at hv; cases hv; exact fits_lo8 _
  · rcases Nat.mod_two_eq_zero_or_one i with e | e
    · obtain ⟨j, rfl⟩ : ∃ j, i = 2 * j := ⟨i / 2, by omega⟩
      rw [(k2 j (by omega)).1] at hv; cases hv; exact fits_lo8 _
    · obtain ⟨j, rfl⟩ : ∃ j, i = 2 * j + 1 := ⟨i / 2, by omega⟩
      rw [(k2 j (by omega)).2] at hv; cases hv; exact fits_lo8 _
/-- the same text -/
def SameT (n : Nat) (f : Nat → Int32) (k : Nat) (g : Nat → Int32) : Prop := n = k ∧ ∀ j, j < n → f j = g j
theorem lo8_inj {x y : Int32} (h0 : ¬ x < 0) (h1 : ¬ 255 < x) (k0 : ¬ y < 0) (k1 : ¬ 255 < y) (h : lo8 x = lo8 y) : x = y := by
  rw [← lo8_mask h0 h1, ← lo8_mask k0 k1, h]
/-- arrays coded by one coder are equal just where the texts are -/
theorem Cod.eqv {cd : Int32} {n k : Nat} {f g : Nat → Int32} {V V' : Cell} (h : Cod cd n f V) (h' : Cod cd k g V') (hf : ∀ j, j < n → ¬ f j < 0 ∧ ¬ 65535 < f j) (hg : ∀ j, j < k → ¬ g j < 0 ∧ ¬ 65535 < g j) : EqC V V' ↔ SameT n f k g := by
  have yvv : ∀ {W : Cell} {i : Nat} {x : Int32}, W.slots[i]? = some (.int x) → yv W i = x := fun q => by unfold yv; rw [q]
  rcases h with ⟨rfl, k1, k2⟩ | ⟨rfl, k1, k2, -⟩
  · rcases h' with ⟨-, m1, m2⟩ | ⟨e, -⟩
    · constructor
      · rintro ⟨e1, e2⟩
        refine ⟨by omega, fun j hj => ?_⟩
        have q := e2 j (by omega)
        rw [yvv (k2 j hj).1, yvv (m2 j (by omega)).1] at q
        exact lo8_inj (hf j hj).1 (k2 j hj).2 (hg j (by omega)).1 (m2 j (by omega)).2 q
      · rintro ⟨rfl, e2⟩
        refine ⟨by omega, fun j hj => ?_⟩
        rw [yvv (k2 j (by omega)).1, yvv (m2 j (by omega)).1, e2 j (by omega)]
    · exact absurd e (by decide)
  · rcases h' with ⟨e, -⟩ | ⟨-, m1, m2, -⟩
    · exact absurd e (by decide)
    · constructor
      · rintro ⟨e1, e2⟩
        refine ⟨by omega, fun j hj => ?_⟩
        have q1 := e2 (2 * j) (by omega)
        have q2 := e2 (2 * j + 1) (by omega)
        rw [yvv (k2 j hj).1, yvv (m2 j (by omega)).1] at q1
        rw [yvv (k2 j hj).2, yvv (m2 j (by omega)).2] at q2
        rw [← pair_says (hf j hj).1 (hf j hj).2, ← pair_says (hg j (by omega)).1 (hg j (by omega)).2, q1, q2]
      · rintro ⟨rfl, e2⟩
        refine ⟨by omega, fun i hi => ?_⟩
        rcases Nat.mod_two_eq_zero_or_one i with e | e
        · obtain ⟨j, rfl⟩ : ∃ j, i = 2 * j := ⟨i / 2, by omega⟩
          rw [yvv (k2 j (by omega)).1, yvv (m2 j (by omega)).1, e2 j (by omega)]
        · obtain ⟨j, rfl⟩ : ∃ j, i = 2 * j + 1 := ⟨i / 2, by omega⟩
          rw [yvv (k2 j (by omega)).2, yvv (m2 j (by omega)).2, e2 j (by omega)]
/-- two codings differ: so do the texts -/
theorem Cod.dif {cd cd' : Int32} {n k : Nat} {f g : Nat → Int32} {V V' : Cell} (h : Cod cd n f V) (h' : Cod cd' k g V') (hne : ¬ cd = cd') : ¬ SameT n f k g := by
  rintro ⟨rfl, e⟩
  rcases h with ⟨rfl, -, k2⟩ | ⟨rfl, -, -, j, hj, hw⟩
  · rcases h' with ⟨rfl, -⟩ | ⟨-, -, -, j, hj, hw⟩
    · exact hne rfl
    · exact (k2 j hj).2 (by rw [e j hj]; exact hw)
  · rcases h' with ⟨-, -, m2⟩ | ⟨rfl, -⟩
    · exact (m2 j hj).2 (by rw [← e j hj]; exact hw)
    · exact hne rfl
/-- an object of exactly C is an instance of C -/
theorem cinst {p : Program} {l : Launch} {e : Env} {R : Room} {s : State} {m : MethodId} {args : Array Value} {below : List Frame} {meth : Method} {c : Code} {T : State} {locs : List Loc} {cells slots : Nat} (X : Stand p l e R s m args below meth c T locs cells slots) (hexec : p.tables.exec = Jvm.exec) {own C : String} {index : Nat} (hown : s.vm.findClass own = some m.cls) (hlink : (Cond.classLink own index C).before args s = true) {a : Addr} (hE : Exact C a T)
    {g : JFrame} (hg : g.method = m) {rest : List Value} (hstack : g.stack = .ref a :: rest) (hdg : decode c.code g.pc = .ok (.instanceof index, 3)) :
    ∃ T', Stand p l e R s m args below meth c T' locs cells slots ∧ T'.heap = T.heap ∧ ∀ target, Steps p.tables e below (T'.setTop { g with pc := g.pc + 3, stack := .int 1 :: rest }) target → Steps p.tables e below (T.setTop g) target := by
  obtain ⟨cB, h1, D, h2, h3, h4⟩ := hE
  have h1' : s.vm.findClass C = some cB := by rw [← X.warmed.alike.findClass]; exact h1
  obtain ⟨vm', X', st⟩ := X.instanceofYes hexec hown hlink h2 h4 h1' (by rw [h3]; exact Jvm.Free.SB.assignable_self _ _) hg hstack hdg
  exact ⟨_, X', rfl, st⟩
theorem cself {p : Program} {l : Launch} {e : Env} {R : Room} {s : State} {m : MethodId} {args : Array Value} {below : List Frame} {meth : Method} {c : Code} {T : State} {locs : List Loc} {cells slots : Nat} (X : Stand p l e R s m args below meth c T locs cells slots) (hexec : p.tables.exec = Jvm.exec) {own C : String} {index : Nat} (hown : s.vm.findClass own = some m.cls) (hlink : (Cond.classLink own index C).before args s = true) {a : Addr} (hE : Exact C a T)
    {g : JFrame} (hg : g.method = m) {rest : List Value} (hstack : g.stack = .ref a :: rest) (hdg : decode c.code g.pc = .ok (.checkcast index, 3)) :
    ∃ T', Stand p l e R s m args below meth c T' locs cells slots ∧ T'.heap = T.heap ∧ ∀ target, Steps p.tables e below (T'.setTop { g with pc := g.pc + 3, stack := .ref a :: rest }) target → Steps p.tables e below (T.setTop g) target := by
  obtain ⟨cB, h1, D, h2, h3, h4⟩ := hE
  have h1' : s.vm.findClass C = some cB := by rw [← X.warmed.alike.findClass]; exact h1
  obtain ⟨vm', X', st⟩ := X.checkcastYes hexec hown hlink h2 h4 h1' (by rw [h3]; exact Jvm.Free.SB.assignable_self _ _) hg hstack hdg
  exact ⟨_, X', rfl, fun t h => st t (by rw [← hstack] at h; exact h)⟩
namespace SEq
def yN : MethodName := ⟨"java/lang/String", "equals", "(Ljava/lang/Object;)Z"⟩
abbrev yB : ByteArray := jdk_42_method_66_code
theorem d0 : decode yB 0 = .ok (.aload_n 0, 1) := by decide +kernel
theorem d1 : decode yB 1 = .ok (.aload_n 1, 1) := by decide +kernel
theorem d2 : decode yB 2 = .ok (.if_acmp (.ne) 5, 3) := by decide +kernel
theorem d5 : decode yB 5 = .ok (.iconst 1, 1) := by decide +kernel
theorem d6 : decode yB 6 = .ok (.ireturn, 1) := by decide +kernel
theorem d7 : decode yB 7 = .ok (.aload_n 1, 1) := by decide +kernel
theorem d8 : decode yB 8 = .ok (.instanceof 10, 3) := by decide +kernel
theorem d11 : decode yB 11 = .ok (.ifCond (.eq) 43, 3) := by decide +kernel
theorem d14 : decode yB 14 = .ok (.aload_n 1, 1) := by decide +kernel
theorem d15 : decode yB 15 = .ok (.checkcast 10, 3) := by decide +kernel
theorem d18 : decode yB 18 = .ok (.astore_n 2, 1) := by decide +kernel
theorem d19 : decode yB 19 = .ok (.getstatic 38, 3) := by decide +kernel
theorem d22 : decode yB 22 = .ok (.ifCond (.eq) 14, 3) := by decide +kernel
theorem d25 : decode yB 25 = .ok (.aload_n 0, 1) := by decide +kernel
theorem d26 : decode yB 26 = .ok (.getfield 15, 3) := by decide +kernel
theorem d29 : decode yB 29 = .ok (.aload_n 2, 1) := by decide +kernel
theorem d30 : decode yB 30 = .ok (.getfield 15, 3) := by decide +kernel
theorem d33 : decode yB 33 = .ok (.if_icmp (.ne) 21, 3) := by decide +kernel
theorem d36 : decode yB 36 = .ok (.aload_n 0, 1) := by decide +kernel
theorem d37 : decode yB 37 = .ok (.getfield 9, 3) := by decide +kernel
theorem d40 : decode yB 40 = .ok (.aload_n 2, 1) := by decide +kernel
theorem d41 : decode yB 41 = .ok (.getfield 9, 3) := by decide +kernel
theorem d44 : decode yB 44 = .ok (.invokestatic 541, 3) := by decide +kernel
theorem d47 : decode yB 47 = .ok (.ifCond (.eq) 7, 3) := by decide +kernel
theorem d50 : decode yB 50 = .ok (.iconst 1, 1) := by decide +kernel
theorem d51 : decode yB 51 = .ok (.goto 4, 3) := by decide +kernel
theorem d54 : decode yB 54 = .ok (.iconst 0, 1) := by decide +kernel
theorem d55 : decode yB 55 = .ok (.ireturn, 1) := by decide +kernel
def site : List Cond := [.classLink "java/lang/String" 10 "java/lang/String", .fieldLink "java/lang/String" 38 "java/lang/String" "COMPACT_STRINGS" "Z", .fieldLink "java/lang/String" 15 "java/lang/String" "coder" "B", .fieldLink "java/lang/String" 9 "java/lang/String" "value" "[B", LEq.tab] ++ staticW "java/lang/String" 541 LEq.yN
def tab : Cond := tabOf yN yB 3 (some .boolean) site
def P (x t : Addr) (V : Cell) (cd : Int32) (n : Nat) (f : Nat → Int32) (y t' : Addr) (V' : Cell) (cd' : Int32) (k : Nat) (g : Nat → Int32) (z : Int32) (args : Array Value) (s : State) : Prop := args = #[.ref x, .ref y] ∧ Txt x t V cd n f s ∧ Txt y t' V' cd' k g s ∧ StaticIs s "java/lang/String" "COMPACT_STRINGS" "Z" (.int z) ∧ ¬ z = 0
/-- equals(Object) of two Strings: whether the texts are the same -/
theorem law (l : Launch) (x t : Addr) (V : Cell) (cd : Int32) (n : Nat) (f : Nat → Int32) (y t' : Addr) (V' : Cell) (cd' : Int32) (k : Nat) (g : Nat → Int32) (z : Int32) : Law l yN 2 1 1 14 yB 3 (some .boolean) site (P x t V cd n f y t' V' cd' k g z) (Says01 (SameT n f k g)) [] 0 0 := by
  refine Law.of_walk (plainFor_of_name (by decide +kernel)) (by decide +kernel) (by decide +kernel) (by decide) (fun _ _ h => by rw [h.1]; rfl) (fun _ U U' hal hh h => ⟨h.1, h.2.1.mv hal hh, h.2.2.1.mv hal hh, h.2.2.2.1.there hal hh, h.2.2.2.2⟩) (fun r U U' V V' h1 hal h2 h => Says01.mv r U U' V V' h1 hal h2 h) ?_
  intro p e s m args below meth c s₁ X0 hexec hbytes hml hret hlk hnm hown hh0 W hP
  obtain ⟨rfl, hx, hy, s1, hz⟩ := hP
  have c1 : Steps p.tables e below (s₁.setTop (entryFrame m #[.ref x, .ref y] 3)) (s₁.setTop (mkF m 2 #[.val (.ref x), .val (.ref y), .unset] [.ref y, .ref x])) := Steps.trans (entry rfl) (by
    show Steps p.tables e below (s₁.setTop (mkF m 0 #[.val (.ref x), .val (.ref y), .unset] [])) _
    refine XS.aloadN X0.here hexec rfl (hb hbytes d0) rfl rfl ?_
    refine XS.aloadN X0.here hexec rfl (hb hbytes d1) rfl rfl ?_
    exact Steps.refl _)
  by_cases hxy : x = y
  · have c2 : Steps p.tables e below (s₁.setTop (entryFrame m #[.ref x, .ref y] 3)) (s₁.setTop (mkF m 6 #[.val (.ref x), .val (.ref y), .unset] [.int 1])) := c1.trans (by
      refine acmpNo X0.here hexec rfl (hb hbytes d2) rfl rfl rfl (by simp [acmp, hxy]) ?_
      refine iconstV X0.here hexec rfl 1 (hb hbytes d5) (by decide) ?_
      exact Steps.refl _)
    subst hxy
    have ec : cd = cd' := by
      obtain ⟨D, fd, a1, a2, a3⟩ := hx.2.2.1
      obtain ⟨D', fd', b1, b2, b3⟩ := hy.2.2.1
      cases a1.symm.trans b1
      obtain ⟨q1, q2, q3, q4⟩ := a2.1
      obtain ⟨r1, r2, r3, r4⟩ := b2.1
      cases q4.symm.trans r4
      cases a3.symm.trans b3; rfl
    have et : t = t' := by
      obtain ⟨D, fd, a1, a2, a3⟩ := hx.2.1
      obtain ⟨D', fd', b1, b2, b3⟩ := hy.2.1
      cases a1.symm.trans b1
      obtain ⟨q1, q2, q3, q4⟩ := a2.1
      obtain ⟨r1, r2, r3, r4⟩ := b2.1
      cases q4.symm.trans r4
      cases a3.symm.trans b3; rfl
    subst ec et
    have ev : V = V' := by cases hx.2.2.2.1.1.symm.trans hy.2.2.2.1.1; rfl
    subst ev
    have hs : SameT n f k g := (Cod.eqv hx.2.2.2.2.1 hy.2.2.2.2.1 hx.2.2.2.2.2 hy.2.2.2.2.2).mp ⟨rfl, fun _ _ => rfl⟩
    exact ⟨s₁, some (.int 1), _, _, _, X0, rfl, rfl, rfl, (fun h => by cases h), ⟨1, rfl, hh0, Or.inl ⟨rfl, hs⟩⟩, fun fs hl => c2.trans (X0.ireturnOut hexec hret rfl (Or.inr (Or.inl rfl)) (hb hbytes d6) hl)⟩
  · have c2 : Steps p.tables e below (s₁.setTop (entryFrame m #[.ref x, .ref y] 3)) (s₁.setTop (mkF m 8 #[.val (.ref x), .val (.ref y), .unset] [.ref y])) := c1.trans (by
      refine acmpYes X0.here hexec rfl (pc0 := 2) rfl (hb hbytes d2) rfl rfl rfl (by simp [acmp, hxy]) (by decide) rfl ?_
      refine XS.aloadN X0.here hexec rfl (hb hbytes d7) rfl rfl ?_
      exact Steps.refl _)
    obtain ⟨T3, X3, q3, st3⟩ := cinst X0 hexec hown (wk W (.classLink "java/lang/String" 10 "java/lang/String")) (hy.mv X0.warmed.alike hh0).1 (g := (mkF m 8 #[.val (.ref x), .val (.ref y), .unset] [.ref y])) rfl (rest := []) rfl (hb hbytes d8)
    have hh3 := q3.trans hh0
    have c4 : Steps p.tables e below (s₁.setTop (entryFrame m #[.ref x, .ref y] 3)) (T3.setTop (mkF m 15 #[.val (.ref x), .val (.ref y), .unset] [.ref y])) := (c2.trans (st3 _ (Steps.refl _))).trans (by
      refine XS.ifNo X3.here hexec rfl (hb hbytes d11) rfl (i0_eq_f (by decide)) ?_
      refine XS.aloadN X3.here hexec rfl (hb hbytes d14) rfl rfl ?_
      exact Steps.refl _)
    obtain ⟨T5, X5, q5, st5⟩ := cself X3 hexec hown (wk W (.classLink "java/lang/String" 10 "java/lang/String")) (hy.mv X3.warmed.alike hh3).1 (g := (mkF m 15 #[.val (.ref x), .val (.ref y), .unset] [.ref y])) rfl (rest := []) rfl (hb hbytes d15)
    have hh5 := q5.trans hh3
    have c6 : Steps p.tables e below (s₁.setTop (entryFrame m #[.ref x, .ref y] 3)) (T5.setTop (mkF m 19 #[.val (.ref x), .val (.ref y), .val (.ref y)] [])) := (c4.trans (st5 _ (Steps.refl _))).trans (by
      refine XS.astoreN X5.here hexec rfl (hb hbytes d18) rfl rfl rfl ?_
      exact Steps.refl _)
    obtain ⟨T7, X7, q7, st7⟩ := X5.sget hexec hown (wk W (.fieldLink "java/lang/String" 38 "java/lang/String" "COMPACT_STRINGS" "Z")) s1 (fun _ _ h => by rw [hh5]; exact h) (g := (mkF m 19 #[.val (.ref x), .val (.ref y), .val (.ref y)] [])) rfl (hb hbytes d19)
    have hh7 := q7.trans hh5
    have c8 : Steps p.tables e below (s₁.setTop (entryFrame m #[.ref x, .ref y] 3)) (T7.setTop (mkF m 26 #[.val (.ref x), .val (.ref y), .val (.ref y)] [.ref x])) := (c6.trans (st7 _ (Steps.refl _))).trans (by
      refine XS.ifNo X7.here hexec rfl (hb hbytes d22) rfl (i0_eq_f hz) ?_
      refine XS.aloadN X7.here hexec rfl (hb hbytes d25) rfl rfl ?_
      exact Steps.refl _)
    obtain ⟨T9, X9, q9, st9⟩ := X7.hget hexec hown (wk W (.fieldLink "java/lang/String" 15 "java/lang/String" "coder" "B")) (hx.mv X7.warmed.alike hh7).2.2.1 (g := (mkF m 26 #[.val (.ref x), .val (.ref y), .val (.ref y)] [.ref x])) rfl (rest := []) rfl (hb hbytes d26)
    have hh9 := q9.trans hh7
    have c10 : Steps p.tables e below (s₁.setTop (entryFrame m #[.ref x, .ref y] 3)) (T9.setTop (mkF m 30 #[.val (.ref x), .val (.ref y), .val (.ref y)] [.ref y, .int cd])) := (c8.trans (st9 _ (Steps.refl _))).trans (by
      refine XS.aloadN X9.here hexec rfl (hb hbytes d29) rfl rfl ?_
      exact Steps.refl _)
    obtain ⟨T11, X11, q11, st11⟩ := X9.hget hexec hown (wk W (.fieldLink "java/lang/String" 15 "java/lang/String" "coder" "B")) (hy.mv X9.warmed.alike hh9).2.2.1 (g := (mkF m 30 #[.val (.ref x), .val (.ref y), .val (.ref y)] [.ref y, .int cd])) rfl (rest := [.int cd]) rfl (hb hbytes d30)
    have hh11 := q11.trans hh9
    have c12 : Steps p.tables e below (s₁.setTop (entryFrame m #[.ref x, .ref y] 3)) (T11.setTop (mkF m 33 #[.val (.ref x), .val (.ref y), .val (.ref y)] [.int cd', .int cd])) := c10.trans (st11 _ (Steps.refl _))
    by_cases hcd : cd = cd'
    · subst hcd
      have c13 : Steps p.tables e below (s₁.setTop (entryFrame m #[.ref x, .ref y] 3)) (T11.setTop (mkF m 37 #[.val (.ref x), .val (.ref y), .val (.ref y)] [.ref x])) := c12.trans (by
        refine XS.icmpNo X11.here hexec rfl (hb hbytes d33) rfl (ii_ne_f rfl) ?_
        refine XS.aloadN X11.here hexec rfl (hb hbytes d36) rfl rfl ?_
        exact Steps.refl _)
      obtain ⟨T14, X14, q14, st14⟩ := X11.hget hexec hown (wk W (.fieldLink "java/lang/String" 9 "java/lang/String" "value" "[B")) (hx.mv X11.warmed.alike hh11).2.1 (g := (mkF m 37 #[.val (.ref x), .val (.ref y), .val (.ref y)] [.ref x])) rfl (rest := []) rfl (hb hbytes d37)
      have hh14 := q14.trans hh11
      have c15 : Steps p.tables e below (s₁.setTop (entryFrame m #[.ref x, .ref y] 3)) (T14.setTop (mkF m 41 #[.val (.ref x), .val (.ref y), .val (.ref y)] [.ref y, .ref t])) := (c13.trans (st14 _ (Steps.refl _))).trans (by
        refine XS.aloadN X14.here hexec rfl (hb hbytes d40) rfl rfl ?_
        exact Steps.refl _)
      obtain ⟨T16, X16, q16, st16⟩ := X14.hget hexec hown (wk W (.fieldLink "java/lang/String" 9 "java/lang/String" "value" "[B")) (hy.mv X14.warmed.alike hh14).2.1 (g := (mkF m 41 #[.val (.ref x), .val (.ref y), .val (.ref y)] [.ref y, .ref t])) rfl (rest := [.ref t]) rfl (hb hbytes d41)
      have hh16 := q16.trans hh14
      have c17 : Steps p.tables e below (s₁.setTop (entryFrame m #[.ref x, .ref y] 3)) (T16.setTop (mkF m 44 #[.val (.ref x), .val (.ref y), .val (.ref y)] [.ref t', .ref t])) := c15.trans (st16 _ (Steps.refl _))
      obtain ⟨v18, T18, X18, E18, g18⟩ := X16.callS hexec (LEq.law l t V t' V') hown (wks W (staticW "java/lang/String" 541 LEq.yN)) (wk W LEq.tab) (W := 0) (Nat.le_of_ble_eq_true rfl) (Nat.le_of_ble_eq_true rfl) (Nat.le_refl _) (Nat.le_refl _) (g := (mkF m 44 #[.val (.ref x), .val (.ref y), .val (.ref y)] [.ref t', .ref t])) rfl (by rw [hml]; rfl) c17 (argsL := [.ref t, .ref t']) (rest := []) rfl rfl (by show 2 * 0 + 0 ≤ _; decide) (hb hbytes d44) (⟨rfl, hx.2.2.2.1.mv X16.warmed.alike hh16, hx.2.2.2.2.1.ty, hy.2.2.2.1.mv X16.warmed.alike hh16, hy.2.2.2.2.1.ty⟩)
      obtain ⟨v, rfl, q18, hv⟩ := E18
      have iff := Cod.eqv hx.2.2.2.2.1 hy.2.2.2.2.1 hx.2.2.2.2.2 hy.2.2.2.2.2
      rcases hv with ⟨rfl, he⟩ | ⟨rfl, he⟩
      · have c19 : Steps p.tables e below (s₁.setTop (entryFrame m #[.ref x, .ref y] 3)) (T18.setTop (mkF m 55 #[.val (.ref x), .val (.ref y), .val (.ref y)] [.int 1])) := Steps.trans g18 (by
          refine XS.ifNo X18.here hexec rfl (hb hbytes d47) rfl (i0_eq_f (by decide)) ?_
          refine iconstV X18.here hexec rfl 1 (hb hbytes d50) (by decide) ?_
          refine XS.goto X18.here hexec rfl (pc0 := 51) rfl (hb hbytes d51) (by decide) rfl ?_
          exact Steps.refl _)
        exact ⟨T18, some (.int 1), _, _, _, X18, rfl, rfl, rfl, (fun h => by cases h), ⟨1, rfl, q18.trans hh16, Or.inl ⟨rfl, iff.mp he⟩⟩, fun fs hl => c19.trans (X18.ireturnOut hexec hret rfl (Or.inr (Or.inl rfl)) (hb hbytes d55) hl)⟩
      · have c19 : Steps p.tables e below (s₁.setTop (entryFrame m #[.ref x, .ref y] 3)) (T18.setTop (mkF m 55 #[.val (.ref x), .val (.ref y), .val (.ref y)] [.int 0])) := Steps.trans g18 (by
          refine XS.ifYes X18.here hexec rfl (pc0 := 47) rfl (hb hbytes d47) rfl (i0_eq_t rfl) (by decide) rfl ?_
          refine iconstV X18.here hexec rfl 0 (hb hbytes d54) (by decide) ?_
          exact Steps.refl _)
        exact ⟨T18, some (.int 0), _, _, _, X18, rfl, rfl, rfl, (fun h => by cases h), ⟨0, rfl, q18.trans hh16, Or.inr ⟨rfl, fun q => he (iff.mpr q)⟩⟩, fun fs hl => c19.trans (X18.ireturnOut hexec hret rfl (Or.inr (Or.inl rfl)) (hb hbytes d55) hl)⟩
    · have c13 : Steps p.tables e below (s₁.setTop (entryFrame m #[.ref x, .ref y] 3)) (T11.setTop (mkF m 55 #[.val (.ref x), .val (.ref y), .val (.ref y)] [.int 0])) := c12.trans (by
        refine XS.icmpYes X11.here hexec rfl (pc0 := 33) rfl (hb hbytes d33) rfl (ii_ne_t hcd) (by decide) rfl ?_
        refine iconstV X11.here hexec rfl 0 (hb hbytes d54) (by decide) ?_
        exact Steps.refl _)
      exact ⟨T11, some (.int 0), _, _, _, X11, rfl, rfl, rfl, (fun h => by cases h), ⟨0, rfl, hh11, Or.inr ⟨rfl, Cod.dif hx.2.2.2.2.1 hy.2.2.2.2.1 hcd⟩⟩, fun fs hl => c13.trans (X11.ireturnOut hexec hret rfl (Or.inr (Or.inl rfl)) (hb hbytes d55) hl)⟩
theorem pays {l : Launch} {R : Room} {p : Program} {e : Env} {below : List Frame} {s : State} {sargs : Array Value} {len W : Nat} (x t : Addr) (V : Cell) (cd : Int32) (n : Nat) (f : Nat → Int32) (y t' : Addr) (V' : Cell) (cd' : Int32) (k : Nat) (g : Nat → Int32) (z : Int32) (htab : tab.before sargs s = true) (hfr : 2 ≤ R.frames) (hlo : W + 28 ≤ R.locals) :
    Back l R p e below s sargs yN len W (fun A₁ a₁ => A₁.cells + 0 ≤ R.cells ∧ A₁.slots + 0 ≤ R.slots ∧ P x t V cd n f y t' V' cd' k g z a₁ A₁.U) (fun A₁ _ v₁ B₁ => Says01 (SameT n f k g) v₁ A₁.U B₁.U ∧ B₁.locs = A₁.locs ++ [] ∧ B₁.cells = A₁.cells + 0 ∧ B₁.slots = A₁.slots + 0) :=
  (law l x t V cd n f y t' V' cd' k g z).pays htab hfr (by omega)
end SEq
end StrChars
namespace StrChars.Road
open Jvm Sem ClassFile Op Lib Jvm.Stand Jvm.Free Jvm.Free.XT
open Jvm.Lib.Cold (StaticIs)
/-- the words of String.equals(Object) -/
abbrev wordsEq : List Jvm.Cond := [.code SEq.yN SEq.yB 3 (some .boolean), .initialized ST, .classLink ST 10 ST, .fieldLink ST 38 ST "COMPACT_STRINGS" "Z", .fieldLink ST 15 ST "coder" "B", .fieldLink ST 9 ST "value" "[B", .methodLink ST 541 LEq.yN, .static LEq.yN, .code LEq.yN LEq.yB 3 (some .boolean), .initialized "java/lang/StringLatin1"]
theorem tabEq_of {a : Array Value} {s : State} (h : ∀ w ∈ wordsEq, w.before a s = true) : SEq.tab.before a s = true := by
  have hl : LEq.tab.before a s = true := unparts (wk h (.code LEq.yN LEq.yB 3 (some .boolean))) (wks h (.initialized LEq.yN.cls :: LEq.site))
  have q := consq hl h
  exact unparts (wk q (.code SEq.yN SEq.yB 3 (some .boolean))) (wks q (.initialized SEq.yN.cls :: SEq.site))
theorem movedEq {Z s : State} {a0 args : Array Value} (hZ : Z.Warmed39 s.vm) (hw : ∀ d ∈ wordsEq, d.before a0 Z = true) : ∀ d ∈ wordsEq, d.before args s = true := fun d hd => by
  have t : ∀ d ∈ wordsEq, (d.onTables && d.keepsFace) = true := by decide +kernel
  exact RoadKit.mv hZ (hw d hd) (t d hd)
/-- the road's facts of a String, as the laws ask it -/
theorem txt_of {Z U : State} {a0 : Array Value} {kI : Nat} (wi : (Jvm.Cond.instantiable ST kI).before a0 Z = true) (al : Z.vm.Alike U.vm) {x t : Addr} {kb : ClassId} {cs : List Int32} {cd N2 : Int32} {vs : List Value} (E : RoadKit.Exa Z U.heap x ST) (V : RoadKit.Fld Z U.heap x ST "value" "[B" (.ref t)) (C : RoadKit.Fld Z U.heap x ST "coder" "B" (.int cd)) (K : RoadKit.Arv Z U.heap t kb .byte N2 vs (.int 0)) (hc : CodA cs cd N2 vs) (hb : ∀ c ∈ cs, ¬ c < 0 ∧ ¬ (65535 : Int32) < c) (l2 : cs.length ≤ 4000) :
    ∃ A, Txt x t A cd cs.length (fun j => cs.getD j 0) U := by
  obtain ⟨A, K1, K2, K3, K4, K5, K6⟩ := K
  have hcod := hc.cod (by omega) K3 K5
  obtain ⟨D, fV, fC, hB, F1, F2, g1, g2, -, -⟩ := strObj wi al E V C
  exact ⟨A, ⟨_, hB.2.2.1, D, hB.1, rfl, by cases q : D.vm <;> first | rfl | exact absurd q (hB.2.1.2 _)⟩, Has.of hB F1 g1, Has.of hB F2 g2, ⟨K1.1, State.isArrayOf_alike al K1.2.1, K1.2.2, by rcases hcod with ⟨-, q, -⟩ | ⟨-, q, -⟩ <;> omega⟩, hcod, fun j hj => by
    have e : cs.getD j 0 = cs[j] := by simp [List.getD_eq_getElem?_getD, hj]
    show ¬ cs.getD j 0 < 0 ∧ ¬ 65535 < cs.getD j 0
    rw [e]; exact hb _ (List.getElem_mem _)⟩
theorem same_list (cs ds : List Int32) : SameT cs.length (fun j => cs.getD j 0) ds.length (fun j => ds.getD j 0) ↔ cs = ds := by
  constructor
  · rintro ⟨e, q⟩
    refine List.ext_getElem e fun j h1 h2 => ?_
    have := q j h1
    simpa [List.getD_eq_getElem?_getD, h1, h2] using this
  · rintro rfl
    exact ⟨rfl, fun _ _ => rfl⟩
/-- **equals(Object) OF TWO SUCH STRINGS**: 1 just where the chars are the same -/
theorem eqW {p : Program} {l : Launch} {e : Env} {R : Room} {s : State} {args : Array Value} {below : List Frame} {len W : Nat} {Z : State} {a0 : Array Value} {h : Heap} (hZ : Z.Warmed39 s.vm) (hw : ∀ d ∈ wordsEq, d.before a0 Z = true) {kI : Nat} (wi : (Jvm.Cond.instantiable ST kI).before a0 Z = true)
    {x t : Addr} {kb : ClassId} {cs : List Int32} {cd N2 : Int32} {vs : List Value} (E : RoadKit.Exa Z h x ST) (V : RoadKit.Fld Z h x ST "value" "[B" (.ref t)) (C : RoadKit.Fld Z h x ST "coder" "B" (.int cd)) (K : RoadKit.Arv Z h t kb .byte N2 vs (.int 0)) (hc : CodA cs cd N2 vs) (hb : ∀ c ∈ cs, ¬ c < 0 ∧ ¬ (65535 : Int32) < c) (l2 : cs.length ≤ 4000)
    {y t' : Addr} {kb' : ClassId} {ds : List Int32} {cd' N2' : Int32} {vs' : List Value} (E' : RoadKit.Exa Z h y ST) (V' : RoadKit.Fld Z h y ST "value" "[B" (.ref t')) (C' : RoadKit.Fld Z h y ST "coder" "B" (.int cd')) (K' : RoadKit.Arv Z h t' kb' .byte N2' vs' (.int 0)) (hc' : CodA ds cd' N2' vs') (hb' : ∀ c ∈ ds, ¬ c < 0 ∧ ¬ (65535 : Int32) < c) (l2' : ds.length ≤ 4000)
    {z : Int32} (S : RoadKit.Sta Z h ST "COMPACT_STRINGS" "Z" (.int z)) (hz : ¬ z = 0) (hfr : 2 ≤ R.frames) (hlo : W + 28 ≤ R.locals) :
    Back l R p e below s args (⟨"java/lang/String", "equals", "(Ljava/lang/Object;)Z"⟩ : MethodName) len W (fun P a => a = #[.ref x, .ref y] ∧ P.U.heap = h ∧ P.cells + 0 ≤ R.cells ∧ P.slots + 0 ≤ R.slots)
      (fun P _ v B => ∃ L, (((v = some (.int 1) ∧ cs = ds) ∨ (v = some (.int 0) ∧ ¬ cs = ds)) ∧ L = [] ∧ B.U.heap = h) ∧ B.locs = P.locs ++ L ∧ B.cells = P.cells + 0 ∧ B.slots = P.slots + 0) := by
  intro m meth c P g ig mk a X hg hsize hdg hW hn hp'
  obtain ⟨rfl, rfl, r1, r2⟩ := hp'
  have al : Z.vm.Alike P.U.vm := hZ.alike.trans X.warmed.alike
  obtain ⟨A, hx⟩ := txt_of wi al E V C K hc hb l2
  obtain ⟨A', hy⟩ := txt_of wi al E' V' C' K' hc' hb' l2'
  obtain ⟨v, B, X', ⟨⟨w, hv, hh, hq⟩, hl, hk, hs⟩, st⟩ := SEq.pays x t A cd cs.length (fun j => cs.getD j 0) y t' A' cd' ds.length (fun j => ds.getD j 0) z (tabEq_of (movedEq hZ hw)) hfr hlo m meth c P g ig mk _ X hg hsize hdg hW hn ⟨r1, r2, rfl, hx, hy, sta_is al S, hz⟩
  refine ⟨v, B, X', ⟨[], ⟨?_, rfl, hh⟩, hl, hk, hs⟩, st⟩
  rcases hq with ⟨rfl, q⟩ | ⟨rfl, q⟩
  · exact Or.inl ⟨hv, (same_list cs ds).mp q⟩
  · exact Or.inr ⟨hv, fun e => q ((same_list cs ds).mpr e)⟩
end StrChars.Road
namespace StrChars.Road
open Jvm Sem ClassFile Op Lib Jvm.Stand Jvm.Free Jvm.Free.XT
open Jvm.Lib.Cold (StaticIs)
/-- what backV says of its String, as the contracts of this text ask it: cs's low bytes, coder 0 -/
theorem codOf {cs : List Int32} {n : Nat} (hn : cs.length = n) (hb : ∀ c ∈ cs, ¬ 255 < c) : CodA cs 0 (Int32.ofNat n) ((cs.map lo8).map Value.int) := Or.inl ⟨rfl, by rw [hn], by simp [List.map_map, Function.comp_def], hb⟩
end StrChars.Road
end Jvm.Pilot.@@N@@
namespace Jvm.Pilot.@@N@@
open Jvm Jvm.ClassFile Sem Op Lib Jvm.Free Jvm.Stand Jvm.LawKit Jvm.RoadKit Bundle Jvm.Pilot.@@N@@.Jvm.D
section OwnKit
variable {p : Program} {l : Launch} {e : Env} {R : Room} {s : State} {m : MethodId} {args : Array Value} {below : List Frame} {meth : Method} {c : Code} {T : State} {locs : List Loc} {cells slots : Nat} {Z : State} {a0 : Array Value} {h : Heap} {kc ks : Nat} {Q : Option Value → Heap → List Loc → Prop}
theorem own_retI (X : Stand p l e R s m args below meth c T locs cells slots) (hx : p.tables.exec = Jvm.exec) {pc : Nat} {Ls : Array Slot} {z : Int32} {rest : List Value} (hret : meth.sig.returnType = some .int) (hd : decode c.code pc = .ok (.ireturn, 1)) {fs : List Frame}
    (hl : ∀ (f : JFrame) (acts : List Action), f.method = m → f.locked = none → f.entered = [] → (doReturn e (T.setTop f) acts (some (.int z))).1 = T.setFrames fs) : Steps p.tables e below (T.setTop (mkF m pc Ls (.int z :: rest))) (T.setFrames fs) := by
  have hm' : T.vm.method? m = some meth := X.method'
  have hn : narrow .int (.int z) = .int z := rfl
  show Steps p.tables e below (T.setTop { method := m, pc := pc, locals := Ls, stack := _ :: rest, locked := none }) _
  jvm_step X.here [X.here.top, hx, hd, hm', hret, hn]
  first | (intro acts; rw [hl _ acts rfl rfl rfl]) | rw [hl _ _ rfl rfl rfl]
  exact Steps.refl _
theorem own_retR (X : Stand p l e R s m args below meth c T locs cells slots) (hx : p.tables.exec = Jvm.exec) {pc : Nat} {Ls : Array Slot} {w : Value} {t : FieldType} {rest : List Value} (hret : meth.sig.returnType = some t) (ht : t.isReference = true) (hw : w.isRef = true) (hd : decode c.code pc = .ok (.areturn, 1)) {fs : List Frame}
    (hl : ∀ (f : JFrame) (acts : List Action), f.method = m → f.locked = none → f.entered = [] → (doReturn e (T.setTop f) acts (some w)).1 = T.setFrames fs) : Steps p.tables e below (T.setTop (mkF m pc Ls (w :: rest))) (T.setFrames fs) :=
  retOut X hx (i := .areturn) hret (by rcases ref_cases hw with rfl | ⟨z, rfl⟩ <;> cases t <;> first | rfl | (cases ht; done)) (Or.inr (Or.inr (Or.inr (Or.inr ⟨rfl, ht, hw⟩)))) hd hl
/-- what is left of a walk: from the frame g over T the invocation comes back, and Q says with what -/
def own_Go (p : Program) (e : Env) (below : List Frame) (s : State) (kc ks : Nat) (Q : Option Value → Heap → List Loc → Prop) (T : State) (g : JFrame) : Prop :=
  ∃ U o, Steps p.tables e below (T.setTop g) U ∧ U.status = .running ∧ Ended U below o ∧ ∃ v L, o = .returned v ∧ Q v U.heap L ∧ FrameEnd s o U L kc ks
theorem own_st {T T' : State} {g g' : JFrame} (st : ∀ t, Steps p.tables e below (T'.setTop g') t → Steps p.tables e below (T.setTop g) t) (k : own_Go p e below s kc ks Q T' g') : own_Go p e below s kc ks Q T g := by
  obtain ⟨U, o, a, b⟩ := k
  exact ⟨U, o, st _ a, b⟩
theorem own_goI (X : Stand p l e R s m args below meth c T locs cells slots) (hlk : meth.locks = false) (hx : p.tables.exec = Jvm.exec) {pc : Nat} {Ls : Array Slot} {z : Int32} {rest : List Value} (hret : meth.sig.returnType = some .int) (hd : decode c.code pc = .ok (.ireturn, 1))
    (hQ : Q (some (.int z)) T.heap locs) (h1 : cells ≤ kc) (h2 : slots ≤ ks) : own_Go p e below s kc ks Q T (mkF m pc Ls (.int z :: rest)) := by
  obtain ⟨fs, hr, hrun, hended, hW, hsame⟩ := X.leave (v := some (.int z)) (fun h => by rw [hret] at h; cases h) hlk
  exact ⟨_, _, own_retI X hx hret hd hr, hrun, hended, _, _, rfl, hQ, ⟨_, rfl⟩, hW, hsame.mono h1 h2⟩
theorem own_goN (X : Stand p l e R s m args below meth c T locs cells slots) (hlk : meth.locks = false) (hx : p.tables.exec = Jvm.exec) {pc : Nat} {Ls : Array Slot} {z : Int32} {rest : List Value} {t : FieldType} (ht : t = .boolean ∨ t = .byte ∨ t = .char ∨ t = .short) (hret : meth.sig.returnType = some t) (hd : decode c.code pc = .ok (.ireturn, 1))
    (hQ : Q (some (.int (nar t z))) T.heap locs) (h1 : cells ≤ kc) (h2 : slots ≤ ks) : own_Go p e below s kc ks Q T (mkF m pc Ls (.int z :: rest)) := by
  obtain ⟨fs, hr, hrun, hended, hW, hsame⟩ := X.leave (v := some (.int (nar t z))) (fun h => by rw [hret] at h; cases h) hlk
  exact ⟨_, _, retN X hx hret ht hd hr, hrun, hended, _, _, rfl, hQ, ⟨_, rfl⟩, hW, hsame.mono h1 h2⟩
theorem own_goR (X : Stand p l e R s m args below meth c T locs cells slots) (hlk : meth.locks = false) (hx : p.tables.exec = Jvm.exec) {pc : Nat} {Ls : Array Slot} {w : Value} {rest : List Value} {t : FieldType} (ht : t.isReference = true) (hw : w.isRef = true) (hret : meth.sig.returnType = some t) (hd : decode c.code pc = .ok (.areturn, 1))
    (hQ : Q (some w) T.heap locs) (h1 : cells ≤ kc) (h2 : slots ≤ ks) : own_Go p e below s kc ks Q T (mkF m pc Ls (w :: rest)) := by
  obtain ⟨fs, hr, hrun, hended, hW, hsame⟩ := X.leave (v := some w) (fun h => by rw [hret] at h; cases h) hlk
  exact ⟨_, _, own_retR X hx hret ht hw hd hr, hrun, hended, _, _, rfl, hQ, ⟨_, rfl⟩, hW, hsame.mono h1 h2⟩
theorem own_goV (X : Stand p l e R s m args below meth c T locs cells slots) (hlk : meth.locks = false) (hx : p.tables.exec = Jvm.exec) {pc : Nat} {Ls : Array Slot} (hret : meth.sig.returnType = none) (hd : decode c.code pc = .ok (.return_, 1))
    (hQ : Q none T.heap locs) (h1 : cells ≤ kc) (h2 : slots ≤ ks) : own_Go p e below s kc ks Q T (mkF m pc Ls []) := by
  obtain ⟨fs, hr, hrun, hended, hW, hsame⟩ := X.leave (v := none) (fun _ => rfl) hlk
  exact ⟨_, _, X.returnOut hx hret hd hr, hrun, hended, _, _, rfl, hQ, ⟨_, rfl⟩, hW, hsame.mono h1 h2⟩
theorem own_goJ (X : Stand p l e R s m args below meth c T locs cells slots) (hlk : meth.locks = false) (hx : p.tables.exec = Jvm.exec) {pc : Nat} {Ls : Array Slot} {w : Int64} {rest : List Value} (hret : meth.sig.returnType = some .long) (hd : decode c.code pc = .ok (.lreturn, 1))
    (hQ : Q (some (.long w)) T.heap locs) (h1 : cells ≤ kc) (h2 : slots ≤ ks) : own_Go p e below s kc ks Q T (mkF m pc Ls (.long w :: rest)) := by
  obtain ⟨fs, hr, hrun, hended, hW, hsame⟩ := X.leave (v := some (.long w)) (fun h => by rw [hret] at h; cases h) hlk
  exact ⟨_, _, retOut X hx (i := .lreturn) hret rfl (Or.inr (Or.inl ⟨rfl, rfl, _, rfl⟩)) hd hr, hrun, hended, _, _, rfl, hQ, ⟨_, rfl⟩, hW, hsame.mono h1 h2⟩
/-- an array's component -/
theorem own_cald (X : Stand p l e R s m args below meth c T locs cells slots) (hx : p.tables.exec = Jvm.exec) (hZ : Z.Warmed39 s.vm) (eT : T.heap = h) {a : Addr} {k : ClassId} {n j v : Int32} {vs : List Value} {d : Value} (V : Arv Z h a k .char n vs d) (hj : ¬ j < 0 ∧ j < n) (hv : vs.getD j.toNatClampNeg d = .int v)
    {pc : Nat} {Ls : Array Slot} {rest : List Value} (hd : decode c.code pc = .ok (.caload, 1)) : ∀ t, Steps p.tables e below (T.setTop (mkF m (pc + 1) Ls (.int v :: rest))) t → Steps p.tables e below (T.setTop (mkF m pc Ls (.int j :: .ref a :: rest))) t := by
  obtain ⟨cl, A, -, S, -, H, -⟩ := V
  have hin := inb_of S hj
  exact fun t q => X.caload hx (j := j) (v := .int v) (by rw [eT]; exact A.1) (State.isArrayOf_alike hZ.alike A.2.1) A.2.2 hin (Has.at H hin hv) (g := mkF m pc Ls (.int j :: .ref a :: rest)) rfl rfl hd t q
theorem own_bald (X : Stand p l e R s m args below meth c T locs cells slots) (hx : p.tables.exec = Jvm.exec) (hZ : Z.Warmed39 s.vm) (eT : T.heap = h) {a : Addr} {k : ClassId} {n j v : Int32} {vs : List Value} {d : Value} (V : Arv Z h a k .byte n vs d) (hj : ¬ j < 0 ∧ j < n) (hv : vs.getD j.toNatClampNeg d = .int v)
    {pc : Nat} {Ls : Array Slot} {rest : List Value} (hd : decode c.code pc = .ok (.baload, 1)) : ∀ t, Steps p.tables e below (T.setTop (mkF m (pc + 1) Ls (.int v :: rest))) t → Steps p.tables e below (T.setTop (mkF m pc Ls (.int j :: .ref a :: rest))) t := by
  obtain ⟨cl, A, -, S, -, H, -⟩ := V
  have hin := inb_of S hj
  exact fun t q => X.baloadBytes hx (j := j) (v := .int v) (by rw [eT]; exact A.1) (State.isArrayOf_alike hZ.alike A.2.1) A.2.2 hin (Has.at H hin hv) (g := mkF m pc Ls (.int j :: .ref a :: rest)) rfl rfl hd t q
theorem own_alen (X : Stand p l e R s m args below meth c T locs cells slots) (hx : p.tables.exec = Jvm.exec) (hZ : Z.Warmed39 s.vm) (eT : T.heap = h) {a : Addr} {k : ClassId} {n : Int32} {vs : List Value} {d : Value} {ty : FieldType} (V : Arv Z h a k ty n vs d)
    {pc : Nat} {Ls : Array Slot} {rest : List Value} (hd : decode c.code pc = .ok (.arraylength, 1)) : ∀ t, Steps p.tables e below (T.setTop (mkF m (pc + 1) Ls (.int n :: rest))) t → Steps p.tables e below (T.setTop (mkF m pc Ls (.ref a :: rest))) t := by
  obtain ⟨cl, A, -, S, N, H, -⟩ := V
  refine fun t q => X.arraylength hx (by rw [eT]; exact A.1) (State.isArrayOf_alike hZ.alike A.2.1) (g := mkF m pc Ls (.ref a :: rest)) rfl rfl hd t ?_
  rw [len_of S N]
  exact q
/-- a char's store -/
theorem own_cast (X : Stand p l e R s m args below meth c T locs cells slots) (hx : p.tables.exec = Jvm.exec) (hZ : Z.Warmed39 s.vm) (eT : T.heap = h) {a : Addr} {k : ClassId} {n j x : Int32} {vs : List Value} {d : Value} (V : Arv Z h a k .char n vs d) (hj : ¬ j < 0 ∧ j < n) (i : Nat) (hi : j.toNatClampNeg = i) (hl : i < vs.length)
    {pc : Nat} {Ls : Array Slot} {rest : List Value} (hd : decode c.code pc = .ok (.castore, 1)) : ∃ T' h', Stand p l e R s m args below meth c T' (locs ++ [⟨a, j.toNatClampNeg⟩]) cells slots ∧ T'.heap = h' ∧ Arv Z h' a k .char n (vs.set i (.int (nar .char x))) d ∧ Wr h h' a j.toNatClampNeg (.int (nar .char x)) ∧
      ∀ t, Steps p.tables e below (T'.setTop (mkF m (pc + 1) Ls rest)) t → Steps p.tables e below (T.setTop (mkF m pc Ls (.int x :: .int j :: .ref a :: rest))) t := by
  obtain ⟨cl, A, q, S, N, H, G⟩ := V
  obtain ⟨T', h', X', e', W, st⟩ := stC X hx hZ eT A (j := j) (x := x) (inb_of S hj) (g := mkF m pc Ls (.int x :: .int j :: .ref a :: rest)) rfl rfl hd
  exact ⟨T', h', X', e', Arv.set A q S N H G (fits_nar_char _) W i hi hl, W, st⟩
theorem own_bast (X : Stand p l e R s m args below meth c T locs cells slots) (hx : p.tables.exec = Jvm.exec) (hZ : Z.Warmed39 s.vm) (eT : T.heap = h) {a : Addr} {k : ClassId} {n j x : Int32} {vs : List Value} {d : Value} (V : Arv Z h a k .byte n vs d) (hj : ¬ j < 0 ∧ j < n) (i : Nat) (hi : j.toNatClampNeg = i) (hl : i < vs.length)
    {pc : Nat} {Ls : Array Slot} {rest : List Value} (hd : decode c.code pc = .ok (.bastore, 1)) : ∃ T' h', Stand p l e R s m args below meth c T' (locs ++ [⟨a, j.toNatClampNeg⟩]) cells slots ∧ T'.heap = h' ∧ Arv Z h' a k .byte n (vs.set i (.int (nar .byte x))) d ∧ Wr h h' a j.toNatClampNeg (.int (nar .byte x)) ∧
      ∀ t, Steps p.tables e below (T'.setTop (mkF m (pc + 1) Ls rest)) t → Steps p.tables e below (T.setTop (mkF m pc Ls (.int x :: .int j :: .ref a :: rest))) t := by
  obtain ⟨cl, A, q, S, N, H, G⟩ := V
  obtain ⟨T', h', X', e', W, st⟩ := stB X hx hZ eT A (j := j) (x := x) (inb_of S hj) (g := mkF m pc Ls (.int x :: .int j :: .ref a :: rest)) rfl rfl hd
  exact ⟨T', h', X', e', Arv.set A q S N H G (fits_nar_byte _) W i hi hl, W, st⟩
/-- the premise of a call, in the one form of this text -/
abbrev own_Bk (l : Launch) (R : Room) (p : Program) (e : Env) (below : List Frame) (s : State) (args : Array Value) (y : MethodName) (W : Nat) (h : Heap) (as' : Array Value) (dc ds : Nat) (Q : Option Value → Heap → List Loc → Prop) : Prop :=
  Back l R p e below s args y 3 W (fun A a => a = as' ∧ A.U.heap = h ∧ A.cells + dc ≤ R.cells ∧ A.slots + ds ≤ R.slots) (fun A _ v B => ∃ L, Q v B.U.heap L ∧ B.locs = A.locs ++ L ∧ B.cells = A.cells + dc ∧ B.slots = A.slots + ds)
/-- a static call -/
theorem own_cS (X : Stand p l e R s m args below meth c T locs cells slots) (hx : p.tables.exec = Jvm.exec) (hZ : Z.Warmed39 s.vm) {own : String} {index : Nat} {y : MethodName} {bytes : ByteArray} {maxL : Nat} {ret : Option FieldType} (hown : s.vm.findClass own = some m.cls)
    (w1 : (Cond.methodLink own index y).before a0 Z = true) (w2 : (Cond.static y).before a0 Z = true) (w3 : (Cond.initialized y.cls).before a0 Z = true) (w4 : (Cond.code y bytes maxL ret).before a0 Z = true) (hy : y.cls ≠ "java/lang/invoke/MethodHandle" ∧ y.cls ≠ "java/lang/invoke/VarHandle") (eT : T.heap = h)
    {W dc ds : Nat} {Qc : Option Value → Heap → List Loc → Prop} {argsL rest : List Value} (hK : own_Bk l R p e below s args y W h argsL.toArray dc ds Qc) {pc : Nat} {Ls : Array Slot} {stk : List Value} (hsize : Ls.size = c.maxLocals) (hlen : ∀ sig, parseMethodDescriptor y.desc = some sig → argsL.length = sig.parameters.length)
    (hstk : stk = argsL.reverse ++ rest) (hW : (rest.map fun v => v.category).sum ≤ W) (hd : decode c.code pc = .ok (.invokestatic index, 3)) (h1 : cells + dc ≤ R.cells) (h2 : slots + ds ≤ R.slots) :
    ∃ v L T', Stand p l e R s m args below meth c T' (locs ++ L) (cells + dc) (slots + ds) ∧ Qc v T'.heap L ∧ ∀ t, Steps p.tables e below (T'.setTop (mkF m (pc + 3) Ls (v.toList ++ rest))) t → Steps p.tables e below (T.setTop (mkF m pc Ls stk)) t := by
  obtain ⟨v, _, ⟨T', L', k', n'⟩, -, X', ⟨L, hQ, q1, q2, q3⟩, st⟩ := Jvm.LawKit.callS X hx (y := y) hown (mvT hZ w1) (mvT hZ w2) (mvT hZ w3) (mvT hZ w4) hy hK (g := mkF m pc Ls stk) rfl hsize (argsL := argsL) (rest := rest) hlen hstk (by simpa using hW) hd (fun _ _ => ⟨rfl, eT, h1, h2⟩)
  dsimp only [Pt.U, Pt.locs, Pt.cells, Pt.slots] at X' hQ q1 q2 q3 st
  subst q1 q2 q3
  exact ⟨v, L, T', X', hQ, st⟩
/-- a virtual call of the method that the receiver's class selects -/
theorem own_cV (X : Stand p l e R s m args below meth c T locs cells slots) (hx : p.tables.exec = Jvm.exec) (hZ : Z.Warmed39 s.vm) {own C : String} {index : Nat} {y z : MethodName} (hown : s.vm.findClass own = some m.cls)
    (w1 : (Cond.methodLink own index y).before a0 Z = true) (w2 : (Cond.declares y).before a0 Z = true) (hnf : NotFace s y) (w3 : (Cond.selects C y z).before a0 Z = true) (w4 : (Cond.instanceMethod z).before a0 Z = true) (hy : y.cls ≠ "java/lang/invoke/MethodHandle" ∧ y.cls ≠ "java/lang/invoke/VarHandle") (eT : T.heap = h)
    {b : Addr} (E : Exa Z h b C) {W dc ds : Nat} {Qc : Option Value → Heap → List Loc → Prop} {argsL rest : List Value} (hK : own_Bk l R p e below s args z W h (Value.ref b :: argsL).toArray dc ds Qc) {pc : Nat} {Ls : Array Slot} {stk : List Value} (hsize : Ls.size = c.maxLocals) (hlen : ∀ sig, parseMethodDescriptor y.desc = some sig → argsL.length = sig.parameters.length)
    (hstk : stk = argsL.reverse ++ .ref b :: rest) (hW : (rest.map fun v => v.category).sum ≤ W) (hd : decode c.code pc = .ok (.invokevirtual index, 3)) (h1 : cells + dc ≤ R.cells) (h2 : slots + ds ≤ R.slots) :
    ∃ v L T', Stand p l e R s m args below meth c T' (locs ++ L) (cells + dc) (slots + ds) ∧ Qc v T'.heap L ∧ ∀ t, Steps p.tables e below (T'.setTop (mkF m (pc + 3) Ls (v.toList ++ rest))) t → Steps p.tables e below (T.setTop (mkF m pc Ls stk)) t := by
  obtain ⟨cq, kq, qa, qb, qc⟩ := isOf hZ eT E
  obtain ⟨v, _, ⟨T', L', k', n'⟩, -, X', ⟨L, hQ, q1, q2, q3⟩, st⟩ := X.virtualBack hx (y := y) (z := z) hown (mvT hZ w1) (mvT hZ w2) hnf (mvT hZ w3) (mvT hZ w4) hy hK qa qc (g := mkF m pc Ls stk) rfl hsize (Steps.refl _) (argsL := argsL) (rest := rest) hlen hstk (by simpa using hW) hd (fun _ _ => ⟨rfl, eT, h1, h2⟩)
  dsimp only [Pt.U, Pt.locs, Pt.cells, Pt.slots] at X' hQ q1 q2 q3 st
  subst q1 q2 q3
  exact ⟨v, L, T', X', hQ, fun t q => st.trans q⟩
/-- a constructor's call -/
theorem own_cI (X : Stand p l e R s m args below meth c T locs cells slots) (hx : p.tables.exec = Jvm.exec) (hZ : Z.Warmed39 s.vm) {own : String} {index : Nat} {y : MethodName} {bytes : ByteArray} {maxL : Nat} (hn : y.name = "<init>") (hown : s.vm.findClass own = some m.cls)
    (w1 : (Cond.methodLink own index y).before a0 Z = true) (w2 : (Cond.instanceMethod y).before a0 Z = true) (w4 : (Cond.code y bytes maxL none).before a0 Z = true) (hy : y.cls ≠ "java/lang/invoke/MethodHandle" ∧ y.cls ≠ "java/lang/invoke/VarHandle") (eT : T.heap = h)
    {b : Addr} {W dc ds : Nat} {Qc : Option Value → Heap → List Loc → Prop} {argsL rest : List Value} (hK : own_Bk l R p e below s args y W h (Value.ref b :: argsL).toArray dc ds Qc) {pc : Nat} {Ls : Array Slot} {stk : List Value} (hsize : Ls.size = c.maxLocals) (hlen : ∀ sig, parseMethodDescriptor y.desc = some sig → argsL.length = sig.parameters.length)
    (hstk : stk = argsL.reverse ++ .ref b :: rest) (hW : (rest.map fun v => v.category).sum ≤ W) (hd : decode c.code pc = .ok (.invokespecial index, 3)) (h1 : cells + dc ≤ R.cells) (h2 : slots + ds ≤ R.slots) :
    ∃ v L T', Stand p l e R s m args below meth c T' (locs ++ L) (cells + dc) (slots + ds) ∧ Qc v T'.heap L ∧ ∀ t, Steps p.tables e below (T'.setTop (mkF m (pc + 3) Ls (v.toList ++ rest))) t → Steps p.tables e below (T.setTop (mkF m pc Ls stk)) t := by
  obtain ⟨v, _, ⟨T', L', k', n'⟩, -, X', ⟨L, hQ, q1, q2, q3⟩, st⟩ := X.specialBack hx (y := y) hn hown (mvT hZ w1) (mvT hZ w2) (mvT hZ w4) hy hK (g := mkF m pc Ls stk) rfl hsize (Steps.refl _) (a := b) (argsL := argsL) (rest := rest) hlen hstk (by simpa using hW) hd (fun _ _ => ⟨rfl, eT, h1, h2⟩)
  dsimp only [Pt.U, Pt.locs, Pt.cells, Pt.slots] at X' hQ q1 q2 q3 st
  subst q1 q2 q3
  exact ⟨v, L, T', X', hQ, fun t q => st.trans q⟩
/-- behind a call that wrote and made nothing -/
theorem own_pure {pc : Nat} {Ls : Array Slot} {stk rest : List Value} {w : Option Value} (q : ∃ v L T', Stand p l e R s m args below meth c T' (locs ++ L) (cells + 0) (slots + 0) ∧ (v = w ∧ L = [] ∧ T'.heap = h) ∧ ∀ t, Steps p.tables e below (T'.setTop (mkF m (pc + 3) Ls (v.toList ++ rest))) t → Steps p.tables e below (T.setTop (mkF m pc Ls stk)) t) :
    ∃ T', Stand p l e R s m args below meth c T' locs cells slots ∧ T'.heap = h ∧ ∀ t, Steps p.tables e below (T'.setTop (mkF m (pc + 3) Ls (w.toList ++ rest))) t → Steps p.tables e below (T.setTop (mkF m pc Ls stk)) t := by
  obtain ⟨v, L, T', X', ⟨rfl, rfl, e'⟩, st⟩ := q
  exact ⟨T', by simpa using X', e', st⟩
/-- behind a call that wrote and made nothing, of which A says what it returned -/
theorem own_pureE {pc : Nat} {Ls : Array Slot} {stk rest : List Value} {A : Option Value → Prop} (q : ∃ v L T', Stand p l e R s m args below meth c T' (locs ++ L) (cells + 0) (slots + 0) ∧ (A v ∧ L = [] ∧ T'.heap = h) ∧ ∀ t, Steps p.tables e below (T'.setTop (mkF m (pc + 3) Ls (v.toList ++ rest))) t → Steps p.tables e below (T.setTop (mkF m pc Ls stk)) t) :
    ∃ v T', A v ∧ Stand p l e R s m args below meth c T' locs cells slots ∧ T'.heap = h ∧ ∀ t, Steps p.tables e below (T'.setTop (mkF m (pc + 3) Ls (v.toList ++ rest))) t → Steps p.tables e below (T.setTop (mkF m pc Ls stk)) t := by
  obtain ⟨v, L, T', X', ⟨hA, rfl, e'⟩, st⟩ := q
  exact ⟨v, T', hA, by simpa using X', e', st⟩
theorem own_eq01 {v : Option Value} {cs ds : List Int32} (q : (v = some (.int 1) ∧ cs = ds) ∨ (v = some (.int 0) ∧ ¬ cs = ds)) : ∃ z : Int32, z = (if cs = ds then (1 : Int32) else (0 : Int32)) ∧ v = some (.int z) := by
  rcases q with ⟨rfl, q⟩ | ⟨rfl, q⟩
  · exact ⟨1, by rw [if_pos q], rfl⟩
  · exact ⟨0, by rw [if_neg q], rfl⟩
theorem own_aald (X : Stand p l e R s m args below meth c T locs cells slots) (hx : p.tables.exec = Jvm.exec) (hZ : Z.Warmed39 s.vm) (eT : T.heap = h) {a : Addr} {k : ClassId} {n j : Int32} {v : Value} {vs : List Value} {d : Value} {C : String} (V : Arv Z h a k (.object C) n vs d) (hj : ¬ j < 0 ∧ j < n) (hv : vs.getD j.toNatClampNeg d = v)
    {pc : Nat} {Ls : Array Slot} {rest : List Value} (hd : decode c.code pc = .ok (.aaload, 1)) : ∀ t, Steps p.tables e below (T.setTop (mkF m (pc + 1) Ls (v :: rest))) t → Steps p.tables e below (T.setTop (mkF m pc Ls (.int j :: .ref a :: rest))) t := by
  obtain ⟨cl, A, -, S, -, H, -⟩ := V
  have hin := inb_of S hj
  exact fun t q => X.aaload hx (j := j) (v := v) (by rw [eT]; exact A.1) (State.isArrayOf_alike hZ.alike A.2.1) rfl A.2.2 hin (Has.at H hin hv) (g := mkF m pc Ls (.int j :: .ref a :: rest)) rfl rfl hd t q
/-- an array's clone -/
theorem own_clone (X : Stand p l e R s m args below meth c T locs cells slots) (hx : p.tables.exec = Jvm.exec) (hZ : Z.Warmed39 s.vm) {own ad : String} {index : Nat} (hown : s.vm.findClass own = some m.cls)
    (w1 : (Cond.methodLink own index ⟨ad, "clone", "()Ljava/lang/Object;"⟩).before a0 Z = true) (w2 : (Cond.sameMethod ad "java/lang/Object" "clone" "()Ljava/lang/Object;").before a0 Z = true) (w3 : (Cond.native ⟨"java/lang/Object", "clone", "()Ljava/lang/Object;"⟩).before a0 Z = true)
    (w4 : (Cond.instanceMethod ⟨"java/lang/Object", "clone", "()Ljava/lang/Object;"⟩).before a0 Z = true) (w5 : (Cond.selects ad ⟨ad, "clone", "()Ljava/lang/Object;"⟩ ⟨"java/lang/Object", "clone", "()Ljava/lang/Object;"⟩).before a0 Z = true) (w6 : (Cond.castable ad "java/lang/Cloneable").before a0 Z = true)
    (eT : T.heap = h) {a : Addr} {k : ClassId} {ty : FieldType} {n : Int32} {vs : List Value} {d : Value} (V : Arv Z h a k ty n vs d) (E : Exa Z h a ad) {pc : Nat} {Ls : Array Slot} {rest : List Value} (hsize : Ls.size = c.maxLocals) (hd : decode c.code pc = .ok (.invokevirtual index, 3))
    (hf : 1 ≤ R.frames) {W cap : Nat} (hW : (rest.map fun v => v.category).sum ≤ W) (hl : W + 14 ≤ R.locals) (hcap : n.toNatClampNeg ≤ cap) (hc : cells + 1 ≤ R.cells) (hsl : slots + cap ≤ R.slots) :
    ∃ T' h', Stand p l e R s m args below meth c T' locs (cells + 1) (slots + cap) ∧ T'.heap = h' ∧ Ext h h' ∧ Arv Z h' h.size k ty n vs d ∧ Exa Z h' h.size ad ∧
      ∀ t, Steps p.tables e below (T'.setTop (mkF m (pc + 3) Ls (.ref h.size :: rest))) t → Steps p.tables e below (T.setTop (mkF m pc Ls (.ref a :: rest))) t := by
  obtain ⟨cl, A, q, S, N, H, G⟩ := V
  have F : FitC Z cl := fitC_of A fun i hi v hv => by
    have q1 := H i hi
    rw [hv] at q1
    cases q1
    exact G i hi
  obtain ⟨T', h', X', e', E', A', B', st⟩ := cloneA X hx hZ hown w1 w2 w3 w4 w5 w6 eT A E F (g := mkF m pc Ls (.ref a :: rest)) rfl hsize rfl hd hf (W := W) (by simpa using hW) hl (cap := cap) (by rw [S]; exact hcap) hc hsl
  exact ⟨T', h', X', e', E', ⟨_, A', q, S, N, H, G⟩, B', st⟩
theorem own_nref {u : Value} {t : FieldType} (h : u.isRef = true) (ht : t.isReference = true := by rfl) : narrow t u = u := by
  rcases ref_cases h with rfl | ⟨z, rfl⟩ <;> cases t <;> first | rfl | (cases ht; done)
theorem own_fref {u : Value} {t : FieldType} (h : u.isRef = true) (ht : t.isReference = true := by rfl) : fits t u = true := by
  rcases ref_cases h with rfl | ⟨z, rfl⟩ <;> cases t <;> first | rfl | (cases ht; done)
/-- a walk comes to a place where J holds -/
def own_Re (p : Program) (e : Env) (below : List Frame) (J : State → JFrame → Prop) (T : State) (g : JFrame) : Prop := ∃ T' g', J T' g' ∧ ∀ t, Steps p.tables e below (T'.setTop g') t → Steps p.tables e below (T.setTop g) t
theorem own_stR {J : State → JFrame → Prop} {T T' : State} {g g' : JFrame} (st : ∀ t, Steps p.tables e below (T'.setTop g') t → Steps p.tables e below (T.setTop g) t) (k : own_Re p e below J T' g') : own_Re p e below J T g := by
  obtain ⟨U, o, a, b⟩ := k
  exact ⟨U, o, a, fun t q => st _ (b t q)⟩
theorem own_reI {J : State → JFrame → Prop} {T : State} {g : JFrame} (j : J T g) : own_Re p e below J T g := ⟨T, g, j, fun _ q => q⟩
end OwnKit
end Jvm.Pilot.@@N@@
namespace Jvm.Pilot.@@N@@
open Jvm Jvm.ClassFile Sem Op Lib Jvm.Free Jvm.Stand Jvm.LawKit Jvm.RoadKit Bundle Jvm.Pilot.@@N@@.Jvm.D
section OwnWide
variable {p : Program} {l : Launch} {e : Env} {R : Room} {s : State} {m : MethodId} {args : Array Value} {below : List Frame} {meth : Method} {c : Code} {T : State} {locs : List Loc} {cells slots : Nat} {Z : State} {a0 : Array Value} {h h' h0 : Heap} {kc ks : Nat} {Q : Option Value → Heap → List Loc → Prop} {EL : List (String × Nat)} {vm0 : Vm} {own : String} {mc : ClassId}
/-- what is left of a walk that may intern -/
def own_GoW (p : Program) (e : Env) (below : List Frame) (s : State) (Z : State) (EL : List (String × Nat)) (kc ks : Nat) (Q : Option Value → Heap → List Loc → Prop) (T : State) (g : JFrame) : Prop :=
  ∃ U o, Steps p.tables e below (T.setTop g) U ∧ U.status = .running ∧ Ended U below o ∧ ∃ v L, o = .returned v ∧ Q v U.heap L ∧ CHr Z EL s.vm s.heap U.vm U.heap ∧ ReturnedEndW s o U L kc ks
theorem own_stW {T T' : State} {g g' : JFrame} (st : ∀ t, Steps p.tables e below (T'.setTop g') t → Steps p.tables e below (T.setTop g) t) (k : own_GoW p e below s Z EL kc ks Q T' g') : own_GoW p e below s Z EL kc ks Q T g := by
  obtain ⟨U, o, a, b⟩ := k
  exact ⟨U, o, st _ a, b⟩
/-- what such a walk bears -/
def own_W (s Z : State) (EL : List (String × Nat)) (own : String) (mc : ClassId) (h0 : Heap) (vm0 : Vm) (h : Heap) : Prop :=
  (∃ k0, s.Since vm0 k0 ∧ k0 ≤ h.size) ∧ Z.Warmed39 vm0 ∧ vm0.findClass own = some mc ∧ CHr Z EL s.vm h0 vm0 h
theorem own_W.start (hZ : Z.Warmed39 s.vm) (hown : s.vm.findClass own = some mc) (H : CHv Z EL s.vm h) : own_W s Z EL own mc h s.vm h :=
  ⟨⟨h.size, (State.WarmedH.refl s).since _, Nat.le_refl _⟩, hZ, hown, CHr.refl H⟩
theorem own_W.ext (w : own_W s Z EL own mc h0 vm0 h) (E : Ext h h') : own_W s Z EL own mc h0 vm0 h' := by
  obtain ⟨⟨k0, a, b⟩, z, o, C⟩ := w
  exact ⟨⟨k0, a, Nat.le_trans b E.1⟩, z, o, C.trans (CHr.ext E C.1)⟩
theorem own_W.keep {ws : List Addr} (w : own_W s Z EL own mc h0 vm0 h) (K : Keep h h' ws) (hs : ∀ x ∈ ws, Safe Z EL vm0 h x) : own_W s Z EL own mc h0 vm0 h' := by
  obtain ⟨⟨k0, a, b⟩, z, o, C⟩ := w
  exact ⟨⟨k0, a, Nat.le_trans b K.1⟩, z, o, C.trans (CHr.keep K hs C.1)⟩
theorem own_W.wr {a : Addr} {sl : Nat} {v : Value} (w : own_W s Z EL own mc h0 vm0 h) (W : Wr h h' a sl v) (S : Safe Z EL vm0 h a) : own_W s Z EL own mc h0 vm0 h' := by
  obtain ⟨⟨k0, a, b⟩, z, o, C⟩ := w
  exact ⟨⟨k0, a, Nat.le_trans b (Keep.of_wr W).1⟩, z, o, C.trans (CHr.wr W S C.1)⟩
theorem own_W.held (w : own_W s Z EL own mc h0 vm0 h) : CHv Z EL vm0 h := w.2.2.2.1
theorem own_goIW (X : Stand p l e R (s.setVm vm0) m args below meth c T locs cells slots) (hh : s.heap = h0) (w : own_W s Z EL own mc h0 vm0 h) (hEL : EW Z a0 EL) (eT : T.heap = h) (hlk : meth.locks = false) {v : Option Value} {g : JFrame} (hv : meth.sig.returnType = none → v = none)
    (hr : ∀ fs, (∀ (f : JFrame) (acts : List Action), f.method = m → f.locked = none → f.entered = [] → (doReturn e (T.setTop f) acts v).1 = T.setFrames fs) → Steps p.tables e below (T.setTop g) (T.setFrames fs))
    (hQ : Q v h locs) (h1 : cells ≤ kc) (h2 : slots ≤ ks) : own_GoW p e below s Z EL kc ks Q T g := by
  obtain ⟨⟨k0, hS, hk⟩, hZ, -, C⟩ := w
  subst eT hh
  obtain ⟨fs, hl, hrun, hended, q1, q2, q3, q4⟩ := X.leaveW hS hk (v := v) hv hlk
  have A := CHv.at X hZ hEL C.1
  exact ⟨_, _, hr fs hl, hrun, hended, _, _, rfl, hQ, C.trans A, q1, q2, q3, q4.mono h1 h2⟩
theorem own_goWI (X : Stand p l e R (s.setVm vm0) m args below meth c T locs cells slots) (hh : s.heap = h0) (w : own_W s Z EL own mc h0 vm0 h) (hEL : EW Z a0 EL) (eT : T.heap = h) (hlk : meth.locks = false) (hx : p.tables.exec = Jvm.exec) {pc : Nat} {Ls : Array Slot} {z : Int32} {rest : List Value} (hret : meth.sig.returnType = some .int) (hd : decode c.code pc = .ok (.ireturn, 1))
    (hQ : Q (some (.int z)) h locs) (h1 : cells ≤ kc) (h2 : slots ≤ ks) : own_GoW p e below s Z EL kc ks Q T (mkF m pc Ls (.int z :: rest)) :=
  own_goIW X hh w hEL eT hlk (fun h => by rw [hret] at h; cases h) (fun fs hl => own_retI X hx hret hd hl) hQ h1 h2
theorem own_goWN (X : Stand p l e R (s.setVm vm0) m args below meth c T locs cells slots) (hh : s.heap = h0) (w : own_W s Z EL own mc h0 vm0 h) (hEL : EW Z a0 EL) (eT : T.heap = h) (hlk : meth.locks = false) (hx : p.tables.exec = Jvm.exec) {pc : Nat} {Ls : Array Slot} {z : Int32} {rest : List Value} {t : FieldType} (ht : t = .boolean ∨ t = .byte ∨ t = .char ∨ t = .short) (hret : meth.sig.returnType = some t) (hd : decode c.code pc = .ok (.ireturn, 1))
    (hQ : Q (some (.int (nar t z))) h locs) (h1 : cells ≤ kc) (h2 : slots ≤ ks) : own_GoW p e below s Z EL kc ks Q T (mkF m pc Ls (.int z :: rest)) :=
  own_goIW X hh w hEL eT hlk (fun h => by rw [hret] at h; cases h) (fun fs hl => retN X hx hret ht hd hl) hQ h1 h2
theorem own_goWR (X : Stand p l e R (s.setVm vm0) m args below meth c T locs cells slots) (hh : s.heap = h0) (w : own_W s Z EL own mc h0 vm0 h) (hEL : EW Z a0 EL) (eT : T.heap = h) (hlk : meth.locks = false) (hx : p.tables.exec = Jvm.exec) {pc : Nat} {Ls : Array Slot} {u : Value} {rest : List Value} {t : FieldType} (ht : t.isReference = true) (hw : u.isRef = true) (hret : meth.sig.returnType = some t) (hd : decode c.code pc = .ok (.areturn, 1))
    (hQ : Q (some u) h locs) (h1 : cells ≤ kc) (h2 : slots ≤ ks) : own_GoW p e below s Z EL kc ks Q T (mkF m pc Ls (u :: rest)) :=
  own_goIW X hh w hEL eT hlk (fun h => by rw [hret] at h; cases h) (fun fs hl => own_retR X hx hret ht hw hd hl) hQ h1 h2
theorem own_goWV (X : Stand p l e R (s.setVm vm0) m args below meth c T locs cells slots) (hh : s.heap = h0) (w : own_W s Z EL own mc h0 vm0 h) (hEL : EW Z a0 EL) (eT : T.heap = h) (hlk : meth.locks = false) (hx : p.tables.exec = Jvm.exec) {pc : Nat} {Ls : Array Slot} (hret : meth.sig.returnType = none) (hd : decode c.code pc = .ok (.return_, 1))
    (hQ : Q none h locs) (h1 : cells ≤ kc) (h2 : slots ≤ ks) : own_GoW p e below s Z EL kc ks Q T (mkF m pc Ls []) :=
  own_goIW X hh w hEL eT hlk (fun _ => rfl) (fun fs hl => X.returnOut hx hret hd hl) hQ h1 h2
/-- ldc of a String constant that isn't read -/
theorem own_ldcO (X : Stand p l e R (s.setVm vm0) m args below meth c T locs cells slots) (hx : p.tables.exec = Jvm.exec) (w : own_W s Z EL own m.cls h0 vm0 h) (hEL : EW Z a0 EL) {text : String} {index : Nat} (wl : (Cond.stringLink own index text).before a0 Z = true) (wS : ∀ a ∈ Bundle.stringAtoms, a.before a0 Z = true) (eT : T.heap = h)
    {pc : Nat} {Ls : Array Slot} {stk : List Value} (hd : decode c.code pc = .ok (.ldc index, 2)) {n : Nat} (hn : 4 * text.toList.length ≤ n) (hbig : n ≤ 536870912) (hc : cells + 2 ≤ R.cells) (hl : slots + (n + 4) ≤ R.slots) :
    ∃ (a : Addr) (T' : State) (h' : Heap), Stand p l e R (s.setVm T'.vm) m args below meth c T' locs (cells + 2) (slots + (n + 4)) ∧ T'.heap = h' ∧ Ext h h' ∧ own_W s Z EL own m.cls h0 T'.vm h' ∧ (∀ x, x < h.size → Safe Z EL vm0 h x → Safe Z EL T'.vm h' x) ∧
      ∀ t, Steps p.tables e below (T'.setTop (mkF m (pc + 2) Ls (.ref a :: stk))) t → Steps p.tables e below (T.setTop (mkF m pc Ls stk)) t := by
  obtain ⟨⟨k0, hS, hk⟩, hZ, ho, C⟩ := w
  obtain ⟨a, T', h', k1, X', e', E, hS', hk', hZ', ho', C', -, st⟩ := ldcOH X hx hZ ho wl wS eT hS hk hEL C.1 (g := mkF m pc Ls stk) rfl hd hn hbig hc hl
  exact ⟨a, T', h', X', e', E, ⟨⟨k1, hS', hk'⟩, hZ', ho', C.trans C'⟩, fun x hx S => C'.safe hx S, st⟩
/-- ldc of a String constant that is read -/
theorem own_ldcC (X : Stand p l e R (s.setVm vm0) m args below meth c T locs cells slots) (hx : p.tables.exec = Jvm.exec) (w : own_W s Z EL own m.cls h0 vm0 h) (hEL : EW Z a0 EL) {text : String} {index : Nat} (wl : (Cond.stringLink own index text).before a0 Z = true) (wS : ∀ a ∈ Bundle.stringAtoms, a.before a0 Z = true) (eT : T.heap = h)
    (hmem : (own, index) ∈ EL) {vs : List Value} {z : Int32} (ht : (∀ c ∈ text.toList, c.toNat < 256) ∧ text.toList.map (fun c => Value.int (Jvm.Lit.byteI c.toNat.toUInt16)) = vs) (hz : ¬ z < 0) (hlv : z.toNatClampNeg = vs.length)
    {pc : Nat} {Ls : Array Slot} {stk : List Value} (hd : decode c.code pc = .ok (.ldc index, 2)) {n : Nat} (hn : 4 * text.toList.length ≤ n) (hbig : n ≤ 536870912) (hc : cells + 2 ≤ R.cells) (hl : slots + (n + 4) ≤ R.slots) :
    ∃ (a : Addr) (T' : State) (h' : Heap) (b : Addr) (k : ClassId), Stand p l e R (s.setVm T'.vm) m args below meth c T' locs (cells + 2) (slots + (n + 4)) ∧ T'.heap = h' ∧ Ext h h' ∧ own_W s Z EL own m.cls h0 T'.vm h' ∧ (∀ x, x < h.size → Safe Z EL vm0 h x → Safe Z EL T'.vm h' x) ∧
      Exa Z h' a "java/lang/String" ∧ Fld Z h' a "java/lang/String" "coder" "B" (.int (0 : Int32)) ∧ Fld Z h' a "java/lang/String" "value" "[B" (.ref b) ∧ Arv Z h' b k .byte z vs (.int (0 : Int32)) ∧ (∀ x, Safe Z EL T'.vm h' x → x ≠ a ∧ x ≠ b) ∧
      ∀ t, Steps p.tables e below (T'.setTop (mkF m (pc + 2) Ls (.ref a :: stk))) t → Steps p.tables e below (T.setTop (mkF m pc Ls stk)) t := by
  obtain ⟨⟨k0, hS, hk⟩, hZ, ho, C⟩ := w
  obtain ⟨a, T', h', k1, b, k, X', e', E, hS', hk', hZ', ho', q1, q2, q3, q4, -, -, C', -, q5, st⟩ := ldcCH X hx hZ ho wl wS eT hS hk hEL hmem C.1 ht hz hlv (g := mkF m pc Ls stk) rfl hd hn hbig hc hl
  exact ⟨a, T', h', b, k, X', e', E, ⟨⟨k1, hS', hk'⟩, hZ', ho', C.trans C'⟩, fun x hx S => C'.safe hx S, q1, q2, q3, q4, q5, st⟩
/-- the premise of a call that may intern -/
abbrev own_BkW (l : Launch) (R : Room) (p : Program) (e : Env) (below : List Frame) (s : State) (args : Array Value) (y : MethodName) (W : Nat) (Z : State) (EL : List (String × Nat)) (vm0 : Vm) (h : Heap) (as' : Array Value) (dc ds : Nat) (Q : Option Value → Heap → List Loc → Prop) : Prop :=
  BackS l R p e below (s.setVm vm0) args y 3 W (fun A a => a = as' ∧ A.U.heap = h ∧ A.cells + dc ≤ R.cells ∧ A.slots + ds ≤ R.slots) (fun A _ v B => ∃ L, Q v B.U.heap L ∧ B.locs = A.locs ++ L ∧ B.cells = A.cells + dc ∧ B.slots = A.slots + ds ∧ CHr Z EL vm0 h B.U.vm B.U.heap)
/-- a contract of this text pays it: the cells xs, which the callee may write, are no constant's -/
theorem own_backW {y : MethodName} {bytes : ByteArray} {maxL : Nat} {ret : Option FieldType} {rm : Room} {W : Nat} {as' : Array Value} {Qc : Option Value → Heap → List Loc → Prop} {xs : List Addr}
    (hM : MetFree l y (head1 [Cond.code y bytes maxL ret] rm) (fun a U => a = as' ∧ Z.Warmed39 U.vm ∧ U.heap = h ∧ CHv Z EL U.vm h ∧ ∀ x ∈ xs, Safe Z EL U.vm h x) (fun _ _ _ _ _ => True) (fun _ U o U' => ∃ v L, o = .returned v ∧ Qc v U'.heap L ∧ CHr Z EL U.vm U.heap U'.vm U'.heap ∧ ReturnedEndW U o U' L rm.cells rm.slots))
    (w : own_W s Z EL own mc h0 vm0 h) (wc : (Cond.code y bytes maxL ret).before a0 Z = true) (wz : (Cond.initialized y.cls).before a0 Z = true) (hf : rm.frames + 1 ≤ R.frames) (hl : W + (maxL + 11) + rm.locals ≤ R.locals) (hEL : EW Z a0 EL) (hs : ∀ x ∈ xs, x < h.size ∧ Safe Z EL vm0 h x) :
    own_BkW l R p e below s args y W Z EL vm0 h as' rm.cells rm.slots Qc := by
  have hZ : Z.Warmed39 vm0 := w.2.1
  have H := w.held
  refine BackS.of_freeW (bytes := bytes) (maxL := maxL) (ret := ret) (E := fun _ first o t L k n => k = rm.cells ∧ n = rm.slots ∧ (∃ v, o = .returned v ∧ Qc v t.heap L) ∧ CHr Z EL first.vm first.heap t.vm t.heap) hM hf hl ?_ ?_ (fun _ _ _ _ _ _ _ _ _ => trivial) (fun _ _ _ _ ⟨v, L, q1, q2, q3, q4⟩ => ⟨L, _, _, q4, rfl, rfl, ⟨v, q1, q2⟩, q3⟩) ?_
  · intro m meth c A a Y hp
    have hU : Z.Warmed39 A.U.vm := wtrans (s := s.setVm vm0) hZ Y.warmed
    exact ⟨by show (Cond.and _ .tt).before a A.U = true; rw [Cond.before_and, mv hU wc]; rfl, mv hU wc, mv hU wz, hp.2.2.1, hp.2.2.2⟩
  · intro m meth c A a g mk Y hp
    have C := CHv.at Y hZ hEL H
    exact ⟨hp.1, wtrans (s := s.setVm vm0) hZ Y.warmed, hp.2.1, C.1, fun x hx => C.safe (hs x hx).1 (hs x hx).2⟩
  · intro m meth c A a g mk v t L k n Y hp _ _ hE
    obtain ⟨e1, e2, ⟨v', e3, e4⟩, e5⟩ := hE
    cases e3
    subst e1 e2
    refine ⟨L, e4, rfl, rfl, rfl, (CHv.at Y hZ hEL H).trans ?_⟩
    rw [← hp.2.1]
    exact e5
theorem own_W.call (w : own_W s Z EL own mc h0 vm0 h) {vm1 : Vm} {h1 : Heap} (hS : (s.setVm vm0).Since vm1 h1.size) (hg : h.size ≤ h1.size) (C : CHr Z EL vm0 h vm1 h1) : own_W s Z EL own mc h0 vm1 h1 := by
  obtain ⟨⟨k0, a, b⟩, z, o, C0⟩ := w
  exact ⟨⟨h1.size, a.trans hS (Nat.le_trans b hg), Nat.le_refl _⟩, State.Warmed39.trans (t := s.setVm vm0) z hS.1, (hS.1.alike.findClass _ _).trans o, C0.trans C⟩
theorem own_cSW (X : Stand p l e R (s.setVm vm0) m args below meth c T locs cells slots) (hx : p.tables.exec = Jvm.exec) (w : own_W s Z EL own m.cls h0 vm0 h) {index : Nat} {y : MethodName} {bytes : ByteArray} {maxL : Nat} {ret : Option FieldType}
    (w1 : (Cond.methodLink own index y).before a0 Z = true) (w2 : (Cond.static y).before a0 Z = true) (w3 : (Cond.initialized y.cls).before a0 Z = true) (w4 : (Cond.code y bytes maxL ret).before a0 Z = true) (hy : y.cls ≠ "java/lang/invoke/MethodHandle" ∧ y.cls ≠ "java/lang/invoke/VarHandle") (eT : T.heap = h)
    {W dc ds : Nat} {Qc : Option Value → Heap → List Loc → Prop} {argsL rest : List Value} (hK : own_BkW l R p e below s args y W Z EL vm0 h argsL.toArray dc ds Qc) {pc : Nat} {Ls : Array Slot} {stk : List Value} (hsize : Ls.size = c.maxLocals) (hlen : ∀ sig, parseMethodDescriptor y.desc = some sig → argsL.length = sig.parameters.length)
    (hstk : stk = argsL.reverse ++ rest) (hW : (rest.map fun v => v.category).sum ≤ W) (hd : decode c.code pc = .ok (.invokestatic index, 3)) (h1 : cells + dc ≤ R.cells) (h2 : slots + ds ≤ R.slots) :
    ∃ v L T', Stand p l e R (s.setVm T'.vm) m args below meth c T' (locs ++ L) (cells + dc) (slots + ds) ∧ Qc v T'.heap L ∧ own_W s Z EL own m.cls h0 T'.vm T'.heap ∧ CHr Z EL vm0 h T'.vm T'.heap ∧ ∀ t, Steps p.tables e below (T'.setTop (mkF m (pc + 3) Ls (v.toList ++ rest))) t → Steps p.tables e below (T.setTop (mkF m pc Ls stk)) t := by
  have hZ : Z.Warmed39 (s.setVm vm0).vm := w.2.1
  obtain ⟨v, _, ⟨T', L', k', n'⟩, -, X', hS, hg, ⟨L, hQ, q1, q2, q3, C⟩, st⟩ := callSS X hx (y := y) w.2.2.1 (mvT hZ w1) (mvT hZ w2) (mvT hZ w3) (mvT hZ w4) hy hK (g := mkF m pc Ls stk) rfl hsize (argsL := argsL) (rest := rest) hlen hstk (by simpa using hW) hd (fun _ _ => ⟨rfl, eT, h1, h2⟩)
  dsimp only [Pt.U, Pt.locs, Pt.cells, Pt.slots] at X' hQ q1 q2 q3 st hS hg C
  subst q1 q2 q3
  subst eT
  exact ⟨v, L, T', X', hQ, w.call hS hg C, C, fun t q => st.trans q⟩
theorem own_cVW (X : Stand p l e R (s.setVm vm0) m args below meth c T locs cells slots) (hx : p.tables.exec = Jvm.exec) (w : own_W s Z EL own m.cls h0 vm0 h) {C : String} {index : Nat} {y z : MethodName}
    (w1 : (Cond.methodLink own index y).before a0 Z = true) (w2 : (Cond.declares y).before a0 Z = true) (hnf : NotFace (s.setVm vm0) y) (w3 : (Cond.selects C y z).before a0 Z = true) (w4 : (Cond.instanceMethod z).before a0 Z = true) (hy : y.cls ≠ "java/lang/invoke/MethodHandle" ∧ y.cls ≠ "java/lang/invoke/VarHandle") (eT : T.heap = h)
    {b : Addr} (E : Exa Z h b C) {W dc ds : Nat} {Qc : Option Value → Heap → List Loc → Prop} {argsL rest : List Value} (hK : own_BkW l R p e below s args z W Z EL vm0 h (Value.ref b :: argsL).toArray dc ds Qc) {pc : Nat} {Ls : Array Slot} {stk : List Value} (hsize : Ls.size = c.maxLocals) (hlen : ∀ sig, parseMethodDescriptor y.desc = some sig → argsL.length = sig.parameters.length)
    (hstk : stk = argsL.reverse ++ .ref b :: rest) (hW : (rest.map fun v => v.category).sum ≤ W) (hd : decode c.code pc = .ok (.invokevirtual index, 3)) (h1 : cells + dc ≤ R.cells) (h2 : slots + ds ≤ R.slots) :
    ∃ v L T', Stand p l e R (s.setVm T'.vm) m args below meth c T' (locs ++ L) (cells + dc) (slots + ds) ∧ Qc v T'.heap L ∧ own_W s Z EL own m.cls h0 T'.vm T'.heap ∧ CHr Z EL vm0 h T'.vm T'.heap ∧ ∀ t, Steps p.tables e below (T'.setTop (mkF m (pc + 3) Ls (v.toList ++ rest))) t → Steps p.tables e below (T.setTop (mkF m pc Ls stk)) t := by
  have hZ : Z.Warmed39 (s.setVm vm0).vm := w.2.1
  obtain ⟨cq, kq, qa, qb, qc⟩ := isOf hZ eT E
  obtain ⟨v, _, ⟨T', L', k', n'⟩, -, X', hS, hg, ⟨L, hQ, q1, q2, q3, C⟩, st⟩ := X.virtualBackS hx (y := y) (z := z) w.2.2.1 (mvT hZ w1) (mvT hZ w2) hnf (mvT hZ w3) (mvT hZ w4) hy hK qa qc (g := mkF m pc Ls stk) rfl hsize (Steps.refl _) (argsL := argsL) (rest := rest) hlen hstk (by simpa using hW) hd (fun _ _ => ⟨rfl, eT, h1, h2⟩)
  dsimp only [Pt.U, Pt.locs, Pt.cells, Pt.slots] at X' hQ q1 q2 q3 st hS hg C
  subst q1 q2 q3
  subst eT
  exact ⟨v, L, T', X', hQ, w.call hS hg C, C, fun t q => st.trans q⟩
theorem own_cIW (X : Stand p l e R (s.setVm vm0) m args below meth c T locs cells slots) (hx : p.tables.exec = Jvm.exec) (w : own_W s Z EL own m.cls h0 vm0 h) {index : Nat} {y : MethodName} {bytes : ByteArray} {maxL : Nat} (hn : y.name = "<init>")
    (w1 : (Cond.methodLink own index y).before a0 Z = true) (w2 : (Cond.instanceMethod y).before a0 Z = true) (w4 : (Cond.code y bytes maxL none).before a0 Z = true) (hy : y.cls ≠ "java/lang/invoke/MethodHandle" ∧ y.cls ≠ "java/lang/invoke/VarHandle") (eT : T.heap = h)
    {b : Addr} {W dc ds : Nat} {Qc : Option Value → Heap → List Loc → Prop} {argsL rest : List Value} (hK : own_BkW l R p e below s args y W Z EL vm0 h (Value.ref b :: argsL).toArray dc ds Qc) {pc : Nat} {Ls : Array Slot} {stk : List Value} (hsize : Ls.size = c.maxLocals) (hlen : ∀ sig, parseMethodDescriptor y.desc = some sig → argsL.length = sig.parameters.length)
    (hstk : stk = argsL.reverse ++ .ref b :: rest) (hW : (rest.map fun v => v.category).sum ≤ W) (hd : decode c.code pc = .ok (.invokespecial index, 3)) (h1 : cells + dc ≤ R.cells) (h2 : slots + ds ≤ R.slots) :
    ∃ v L T', Stand p l e R (s.setVm T'.vm) m args below meth c T' (locs ++ L) (cells + dc) (slots + ds) ∧ Qc v T'.heap L ∧ own_W s Z EL own m.cls h0 T'.vm T'.heap ∧ CHr Z EL vm0 h T'.vm T'.heap ∧ ∀ t, Steps p.tables e below (T'.setTop (mkF m (pc + 3) Ls (v.toList ++ rest))) t → Steps p.tables e below (T.setTop (mkF m pc Ls stk)) t := by
  have hZ : Z.Warmed39 (s.setVm vm0).vm := w.2.1
  obtain ⟨v, _, ⟨T', L', k', n'⟩, -, X', hS, hg, ⟨L, hQ, q1, q2, q3, C⟩, st⟩ := X.specialBackS hx (y := y) hn w.2.2.1 (mvT hZ w1) (mvT hZ w2) (mvT hZ w4) hy hK (g := mkF m pc Ls stk) rfl hsize (Steps.refl _) (a := b) (argsL := argsL) (rest := rest) hlen hstk (by simpa using hW) hd (fun _ _ => ⟨rfl, eT, h1, h2⟩)
  dsimp only [Pt.U, Pt.locs, Pt.cells, Pt.slots] at X' hQ q1 q2 q3 st hS hg C
  subst q1 q2 q3
  subst eT
  exact ⟨v, L, T', X', hQ, w.call hS hg C, C, fun t q => st.trans q⟩
end OwnWide
end Jvm.Pilot.@@N@@
namespace Jvm.Pilot.@@N@@
open Jvm Jvm.ClassFile Sem Op Lib Jvm.Free Jvm.Stand Jvm.LawKit Jvm.RoadKit Bundle Jvm.Pilot.@@N@@.Jvm.D
section OwnSuper
variable {p : Program} {l : Launch} {e : Env} {R : Room} {s : State} {m : MethodId} {args : Array Value} {below : List Frame} {meth : Method} {c : Code} {T : State} {locs : List Loc} {cells slots : Nat} {Z : State} {a0 : Array Value} {h : Heap}
/-- a class that declares a selected body is no interface -/
theorem own_nface {C : String} {x z y : MethodName} (w : (Cond.selects C x z).before a0 Z = true) (hc : z.cls = y.cls) : NotFace Z y := fun r0 h0 => by
  obtain ⟨c2, r2, m2, q1, q2, q3, q4, kP, hkP, hkPi⟩ := Cond.selects_spec w
  have e1 := findClass_of_methodNamed h0
  have e2 := findClass_of_methodNamed q3
  rw [hc] at e2
  have e3 : r0.cls = m2.cls := Option.some.inj (e1.symm.trans e2)
  exact ⟨kP, by rw [e3]; exact hkP, hkPi⟩
theorem own_nfmv {y : MethodName} (hZ : Z.Warmed39 s.vm) {C : String} {x z : MethodName} (w : (Cond.selects C x z).before a0 Z = true) (hc : z.cls = y.cls) : NotFace s y := own_nface (a0 := #[]) (mvT (args := #[]) hZ w) hc
theorem own_same {C : String} {x z y : MethodName} (w : (Cond.selects C x z).before a0 Z = true) (hc : z.cls = y.cls) (wi : (Cond.instanceMethod y).before a0 Z = true) (hy : y.cls ≠ "java/lang/invoke/MethodHandle" ∧ y.cls ≠ "java/lang/invoke/VarHandle") : (Cond.sameMethod y.cls y.cls y.name y.desc).before a0 Z = true := by
  obtain ⟨mk, methM, hnamed, hmethM, -, -⟩ := Cond.instanceMethod_spec wi
  obtain ⟨kr, hkr, hni⟩ := own_nface w hc mk hnamed
  have hf := State.methodFound?_of_named hnamed hy
  have e1 := findClass_of_methodNamed hnamed
  have hn2 : Z.methodNamed? ⟨y.cls, y.name, y.desc⟩ = some mk := hnamed
  simp [Cond.before, Cond.holds, Cond.value, e1, hf, hn2, hkr, hni]
/-- a virtual call whose body the receiver's class selects, itself (a private one too) -/
theorem own_cP (X : Stand p l e R s m args below meth c T locs cells slots) (hx : p.tables.exec = Jvm.exec) (hZ : Z.Warmed39 s.vm) {own C : String} {index : Nat} {y : MethodName} {bytes : ByteArray} {maxL : Nat} {ret : Option FieldType} (hown : s.vm.findClass own = some m.cls)
    (w1 : (Cond.methodLink own index y).before a0 Z = true) (w2 : (Cond.instanceMethod y).before a0 Z = true) (w3 : (Cond.selects C y y).before a0 Z = true) (w4 : (Cond.code y bytes maxL ret).before a0 Z = true) (hy : y.cls ≠ "java/lang/invoke/MethodHandle" ∧ y.cls ≠ "java/lang/invoke/VarHandle") (eT : T.heap = h)
    {b : Addr} (E : Exa Z h b C) {W dc ds : Nat} {Qc : Option Value → Heap → List Loc → Prop} {argsL rest : List Value} (hK : own_Bk l R p e below s args y W h (Value.ref b :: argsL).toArray dc ds Qc) {pc : Nat} {Ls : Array Slot} {stk : List Value} (hsize : Ls.size = c.maxLocals) (hlen : ∀ sig, parseMethodDescriptor y.desc = some sig → argsL.length = sig.parameters.length)
    (hstk : stk = argsL.reverse ++ .ref b :: rest) (hW : (rest.map fun v => v.category).sum ≤ W) (hd : decode c.code pc = .ok (.invokevirtual index, 3)) (h1 : cells + dc ≤ R.cells) (h2 : slots + ds ≤ R.slots) :
    ∃ v L T', Stand p l e R s m args below meth c T' (locs ++ L) (cells + dc) (slots + ds) ∧ Qc v T'.heap L ∧ ∀ t, Steps p.tables e below (T'.setTop (mkF m (pc + 3) Ls (v.toList ++ rest))) t → Steps p.tables e below (T.setTop (mkF m pc Ls stk)) t := by
  obtain ⟨cell, k, e1, e2, e3, e4, -⟩ := E
  obtain ⟨v, _, ⟨T', L', k', n'⟩, -, X', ⟨L, hQ, q1, q2, q3⟩, st⟩ := Jvm.LawKit.callV X hx (y := y) hown (mvT hZ w1) (mvT hZ w2) (mvT hZ w3) (mvT hZ w4) hy hK (b := b) (cellB := cell) (by rw [eT]; exact e1) e4 (by rw [hZ.alike.findClass]; exact e2) (g := mkF m pc Ls stk) rfl hsize (argsL := argsL) (rest := rest) hlen hstk (by simpa using hW) hd (fun _ _ => ⟨rfl, eT, h1, h2⟩)
  dsimp only [Pt.U, Pt.locs, Pt.cells, Pt.slots] at X' hQ q1 q2 q3 st
  subst q1 q2 q3
  exact ⟨v, L, T', X', hQ, st⟩
/-- super.m(..) -/
theorem own_cU (X : Stand p l e R s m args below meth c T locs cells slots) (hx : p.tables.exec = Jvm.exec) (hZ : Z.Warmed39 s.vm) {own C : String} {index : Nat} {y : MethodName} {bytes : ByteArray} {maxL : Nat} {ret : Option FieldType} (hown : s.vm.findClass own = some m.cls)
    (w1 : (Cond.methodLink own index y).before a0 Z = true) (w2 : (Cond.sameMethod y.cls y.cls y.name y.desc).before a0 Z = true) (w3 : (Cond.instanceMethod y).before a0 Z = true) (w4 : (Cond.superclass own y.cls).before a0 Z = true) (w5 : (Cond.code y bytes maxL ret).before a0 Z = true) (hn : y.name ≠ "<init>") (eT : T.heap = h)
    {b : Addr} (E : Exa Z h b C) {W dc ds : Nat} {Qc : Option Value → Heap → List Loc → Prop} {argsL rest : List Value} (hK : own_Bk l R p e below s args y W h (Value.ref b :: argsL).toArray dc ds Qc) {pc : Nat} {Ls : Array Slot} {stk : List Value} (hsize : Ls.size = c.maxLocals) (hlen : ∀ sig, parseMethodDescriptor y.desc = some sig → argsL.length = sig.parameters.length)
    (hstk : stk = argsL.reverse ++ .ref b :: rest) (hW : (rest.map fun v => v.category).sum ≤ W) (hd : decode c.code pc = .ok (.invokespecial index, 3)) (h1 : cells + dc ≤ R.cells) (h2 : slots + ds ≤ R.slots) :
    ∃ v L T', Stand p l e R s m args below meth c T' (locs ++ L) (cells + dc) (slots + ds) ∧ Qc v T'.heap L ∧ ∀ t, Steps p.tables e below (T'.setTop (mkF m (pc + 3) Ls (v.toList ++ rest))) t → Steps p.tables e below (T.setTop (mkF m pc Ls stk)) t := by
  obtain ⟨v, _, ⟨T', L', k', n'⟩, -, X', ⟨L, hQ, q1, q2, q3⟩, st⟩ := superBack X hx hZ (y := y) hown w1 w2 w3 w4 hn hK eT (Ins.self E) (g := mkF m pc Ls stk) rfl hsize w5 (argsL := argsL) (rest := rest) hlen hstk (by simpa using hW) hd (fun _ _ => ⟨rfl, eT, h1, h2⟩)
  dsimp only [Pt.U, Pt.locs, Pt.cells, Pt.slots] at X' hQ q1 q2 q3 st
  subst q1 q2 q3
  exact ⟨v, L, T', X', hQ, fun t q => st.trans q⟩
/-- System.arraycopy between byte arrays -/
theorem own_acp (X : Stand p l e R s m args below meth c T locs cells slots) (hx : p.tables.exec = Jvm.exec) (hZ : Z.Warmed39 s.vm) {own : String} {index : Nat} (hown : s.vm.findClass own = some m.cls)
    (w1 : (Cond.methodLink own index Jvm.Stand.acN).before a0 Z = true) (w2 : (Cond.native Jvm.Stand.acN).before a0 Z = true) (w3 : (Cond.static Jvm.Stand.acN).before a0 Z = true) (w4 : (Cond.initialized "java/lang/System").before a0 Z = true) (eT : T.heap = h)
    {a b : Addr} {k k' : ClassId} {z z' sp dp nn : Int32} {vs vd : List Value} {dv dd : Value} (A : Arv Z h a k .byte z vs dv) (B : Arv Z h b k' .byte z' vd dd)
    (h1 : ¬ sp < 0) (h2 : ¬ dp < 0) (h3 : ¬ nn < 0) (h4 : sp.toNatClampNeg + nn.toNatClampNeg ≤ z.toNatClampNeg) (h5 : dp.toNatClampNeg + nn.toNatClampNeg ≤ z'.toNatClampNeg) (hl : dp.toNatClampNeg + nn.toNatClampNeg ≤ vd.length) {n0 : Nat} (N : Fr n0 locs) (ge : n0 ≤ b)
    {pc : Nat} {Ls : Array Slot} {rest : List Value} (hsize : Ls.size = c.maxLocals) (hd : decode c.code pc = .ok (.invokestatic index, 3)) (hf : 1 ≤ R.frames) {W : Nat} (hW : (rest.map fun v => v.category).sum ≤ W) (hlo : W + (nativeFrameWords "java/lang/System" "arraycopy" 5 + 11) ≤ R.locals) :
    ∃ T' h' L, Stand p l e R s m args below meth c T' L cells slots ∧ T'.heap = h' ∧ Fr n0 L ∧ Keep h h' [b] ∧ Arv Z h' b k' .byte z' (vd.take dp.toNatClampNeg ++ ((List.range nn.toNatClampNeg).map fun i => vs.getD (sp.toNatClampNeg + i) dv) ++ vd.drop (dp.toNatClampNeg + nn.toNatClampNeg)) dd ∧
      ∀ t, Steps p.tables e below (T'.setTop (mkF m (pc + 3) Ls rest)) t → Steps p.tables e below (T.setTop (mkF m pc Ls (.int nn :: .int dp :: .ref b :: .int sp :: .ref a :: rest))) t :=
  cpA X hx hZ hown w1 w2 w3 w4 eT A B (Or.inl ⟨rfl, rfl⟩) h1 h2 h3 h4 h5 rfl hl N ge (g := mkF m pc Ls (.int nn :: .int dp :: .ref b :: .int sp :: .ref a :: rest)) rfl hsize rfl hd hf (W := W) (by simpa using hW) hlo
end OwnSuper
end Jvm.Pilot.@@N@@
namespace Jvm.Pilot.@@N@@
open Jvm Jvm.ClassFile Sem Op Lib Jvm.Free Jvm.Stand Jvm.LawKit Jvm.RoadKit Bundle Jvm.Pilot.@@N@@.Jvm.D
section OwnKnown
variable {p : Program} {l : Launch} {e : Env} {R : Room} {s : State} {m : MethodId} {args : Array Value} {below : List Frame} {meth : Method} {c : Code} {T : State} {locs : List Loc} {cells slots : Nat} {Z : State} {a0 : Array Value} {h h0 : Heap} {EL : List (String × Nat)} {vm0 : Vm} {own : String} {mc : ClassId}
theorem own_W.knM (w : own_W s Z EL own mc h0 vm0 h) (k : s.vm.MethodsKnown) : vm0.MethodsKnown := by
  obtain ⟨⟨k0, a, b⟩, -⟩ := w
  exact Vm.MethodsKnown.alikeC a.1.alike k
theorem own_W.knF (w : own_W s Z EL own mc h0 vm0 h) (k : s.vm.FramesKnown below) : vm0.FramesKnown below := by
  obtain ⟨⟨k0, a, b⟩, -⟩ := w
  exact Vm.FramesKnown.alikeC a.1.alike k
/-- own_backW for a callee beneath which a stack trace is filled in -/
theorem own_backWK {y : MethodName} {bytes : ByteArray} {maxL : Nat} {ret : Option FieldType} {rm : Room} {W : Nat} {as' : Array Value} {Qc : Option Value → Heap → List Loc → Prop} {xs : List Addr}
    (hM : MetFree l y (head1 [Cond.code y bytes maxL ret] rm) (fun a U => a = as' ∧ Z.Warmed39 U.vm ∧ U.heap = h ∧ CHv Z EL U.vm h ∧ ∀ x ∈ xs, Safe Z EL U.vm h x) (fun _ _ bl s _ => s.vm.MethodsKnown ∧ s.vm.FramesKnown bl) (fun _ U o U' => ∃ v L, o = .returned v ∧ Qc v U'.heap L ∧ CHr Z EL U.vm U.heap U'.vm U'.heap ∧ ReturnedEndW U o U' L rm.cells rm.slots))
    (w : own_W s Z EL own mc h0 vm0 h) (wc : (Cond.code y bytes maxL ret).before a0 Z = true) (wz : (Cond.initialized y.cls).before a0 Z = true) (hf : rm.frames + 1 ≤ R.frames) (hl : W + (maxL + 11) + rm.locals ≤ R.locals) (hEL : EW Z a0 EL) (hs : ∀ x ∈ xs, x < h.size ∧ Safe Z EL vm0 h x) (hTK : vm0.MethodsKnown) (hBelow : vm0.FramesKnown below) :
    own_BkW l R p e below s args y W Z EL vm0 h as' rm.cells rm.slots Qc := by
  have hZ : Z.Warmed39 vm0 := w.2.1
  have H := w.held
  refine BackS.of_freeWG (bytes := bytes) (maxL := maxL) (ret := ret) (E := fun _ first o t L k n => k = rm.cells ∧ n = rm.slots ∧ (∃ v, o = .returned v ∧ Qc v t.heap L) ∧ CHr Z EL first.vm first.heap t.vm t.heap) hM hf hl ?_ ?_ (fun m meth c A a g mk Y _ hg => known_frames Y hg hTK hBelow) (fun _ _ _ _ ⟨v, L, q1, q2, q3, q4⟩ => ⟨L, _, _, q4, rfl, rfl, ⟨v, q1, q2⟩, q3⟩) ?_
  · intro m meth c A a Y hp
    have hU : Z.Warmed39 A.U.vm := wtrans (s := s.setVm vm0) hZ Y.warmed
    exact ⟨by show (Cond.and _ .tt).before a A.U = true; rw [Cond.before_and, mv hU wc]; rfl, mv hU wc, mv hU wz, hp.2.2.1, hp.2.2.2⟩
  · intro m meth c A a g mk Y hp
    have C := CHv.at Y hZ hEL H
    exact ⟨hp.1, wtrans (s := s.setVm vm0) hZ Y.warmed, hp.2.1, C.1, fun x hx => C.safe (hs x hx).1 (hs x hx).2⟩
  · intro m meth c A a g mk v t L k n Y hp _ _ hE
    obtain ⟨e1, e2, ⟨v', e3, e4⟩, e5⟩ := hE
    cases e3
    subst e1 e2
    refine ⟨L, e4, rfl, rfl, rfl, (CHv.at Y hZ hEL H).trans ?_⟩
    rw [← hp.2.1]
    exact e5
/-- a virtual call through a name below the class that declares the method -/
theorem own_cVU (X : Stand p l e R s m args below meth c T locs cells slots) (hx : p.tables.exec = Jvm.exec) (hZ : Z.Warmed39 s.vm) {own C owner : String} {index : Nat} {y z : MethodName} (hown : s.vm.findClass own = some m.cls)
    (w1 : (Cond.methodLink own index y).before a0 Z = true) (w2 : (Cond.sameMethod y.cls owner y.name y.desc).before a0 Z = true) (w3 : (Cond.declares ⟨owner, y.name, y.desc⟩).before a0 Z = true) (ho : owner ≠ "java/lang/invoke/MethodHandle" ∧ owner ≠ "java/lang/invoke/VarHandle") (w4 : (Cond.selects C y z).before a0 Z = true) (w5 : (Cond.instanceMethod z).before a0 Z = true) (eT : T.heap = h)
    {b : Addr} (E : Exa Z h b C) {W dc ds : Nat} {Qc : Option Value → Heap → List Loc → Prop} {argsL rest : List Value} (hK : own_Bk l R p e below s args z W h (Value.ref b :: argsL).toArray dc ds Qc) {pc : Nat} {Ls : Array Slot} {stk : List Value} (hsize : Ls.size = c.maxLocals) (hlen : ∀ sig, parseMethodDescriptor y.desc = some sig → argsL.length = sig.parameters.length)
    (hstk : stk = argsL.reverse ++ .ref b :: rest) (hW : (rest.map fun v => v.category).sum ≤ W) (hd : decode c.code pc = .ok (.invokevirtual index, 3)) (h1 : cells + dc ≤ R.cells) (h2 : slots + ds ≤ R.slots) :
    ∃ v L T', Stand p l e R s m args below meth c T' (locs ++ L) (cells + dc) (slots + ds) ∧ Qc v T'.heap L ∧ ∀ t, Steps p.tables e below (T'.setTop (mkF m (pc + 3) Ls (v.toList ++ rest))) t → Steps p.tables e below (T.setTop (mkF m pc Ls stk)) t := by
  obtain ⟨cq, kq, qa, qb, qc⟩ := isOf hZ eT E
  obtain ⟨v, _, ⟨T', L', k', n'⟩, -, X', ⟨L, hQ, q1, q2, q3⟩, st⟩ := X.virtualBackUp hx (x := y) (y := z) hown (mvT hZ w1) (mvT hZ w2) (mvT hZ w3) ho (mvT hZ w4) (mvT hZ w5) hK qa qc (g := mkF m pc Ls stk) rfl hsize (Steps.refl _) (argsL := argsL) (rest := rest) hlen hstk (by simpa using hW) hd (fun _ _ => ⟨rfl, eT, h1, h2⟩)
  dsimp only [Pt.U, Pt.locs, Pt.cells, Pt.slots] at X' hQ q1 q2 q3 st
  subst q1 q2 q3
  exact ⟨v, L, T', X', hQ, fun t q => st.trans q⟩
end OwnKnown
end Jvm.Pilot.@@N@@
namespace Jvm.Pilot.@@N@@
open Jvm Jvm.ClassFile Sem Op Lib Jvm.Free Jvm.Stand Jvm.LawKit Jvm.RoadKit Bundle Jvm.Pilot.@@N@@.Jvm.D
section OwnFill
/-- the one word of the library's list that this sheet hasn't got -/
abbrev own_bad : Jvm.Cond := .lays tN tN "suppressedExceptions" listD
/-- Throwable's parts, where 'lays' of suppressedExceptions is said of a class rc below it -/
theorem own_links {args : Array Value} {s : State} {pl : Platform} {rc : String} (hrc : rc ≠ tN) (howns : pl.frameOwnsMonitors = true) (hfin : pl.finalization = false) (hpl : pl.magicAccessors = ({} : Platform).magicAccessors) {cX : ClassId} {kX : Class} (hfound : s.vm.findClass rc = some cX) (hkX : s.vm.classes[cX]? = some kX)
    (W : ∀ d ∈ Jvm.Free.Exc.excAtoms rc, d ≠ own_bad → d.before args s = true) :
    ∃ T : ThrowableC, T.Links pl s ∧ s.vm.findClass tN = some T.cT ∧ s.methodNamed? tFill = some T.fill ∧ s.methodNamed? tFill0 = some T.fill0 ∧ (∃ i, s.fieldFound? tN "stackTrace" steD = some (T.cT, T.kT, i, T.fStack)) ∧ T.fStack.type = .array (.object "java/lang/StackTraceElement") ∧ (∃ i, s.fieldFound? tN "UNASSIGNED_STACK" steD = some (T.cT, T.kT, i, T.fUnassigned)) ∧ ∃ cell, s.heap[T.aS]? = some cell ∧ cell.vm.isStatics = true := by
  obtain ⟨⟨c, i0⟩, meth0, hn0, hm0, hnat0, hcode0, hlocks0, hsig0⟩ := Cond.native_spec (W (.native tFill0) (by simp [Jvm.Free.Exc.excAtoms, throwableAtoms]) (by simp))
  have hc : s.vm.findClass tN = some c := findClass_of_methodNamed hn0
  obtain ⟨k, hk, hname⟩ := Vm.findClass_spec hc
  obtain ⟨_, k1, _, _, hk1, _, _, _, _, hni⟩ := Cond.superclass_spec hc (W (.superclass tN "java/lang/Object") (by simp [Jvm.Free.Exc.excAtoms, throwableAtoms]) (by simp))
  cases hk.symm.trans hk1
  obtain ⟨iF, methF, hnF, hmF, hatF, hstF, habF, -, -⟩ := Cond.ownMethod (x := tFill) hc hk (W (.instanceMethod tFill) (by simp [Jvm.Free.Exc.excAtoms, throwableAtoms]) (by simp))
  obtain ⟨methF', cF, hmF', hcF, hbF, hlF, hrF, hlkF, -, hsigF⟩ := Cond.codeSync_spec hnF (W (.codeSync tFill LibCode.Throwable.Fill.code 1 (some (.object tN))) (by simp [Jvm.Free.Exc.excAtoms, throwableAtoms]) (by simp))
  cases hmF.symm.trans hmF'
  obtain ⟨i0', meth0', hn0', hm0', hat0, hst0, hab0, hnm0, hds0⟩ := Cond.ownMethod (x := tFill0) hc hk (W (.instanceMethod tFill0) (by simp [Jvm.Free.Exc.excAtoms, throwableAtoms]) (by simp))
  cases hn0.symm.trans hn0'
  cases hm0.symm.trans hm0'
  obtain ⟨mO, methO, hnO, hmO, hstO, habO⟩ := Cond.instanceMethod_spec (W (.instanceMethod oInit) (by simp [Jvm.Free.Exc.excAtoms, throwableAtoms]) (by simp))
  obtain ⟨methO', cO, hmO', hcO, hbO, hlO, -, hlkO, -, hsigO⟩ := Cond.code_spec hnO (W _ (List.mem_of_getElem? (i := 9) rfl) (by simp))
  cases hmO.symm.trans hmO'
  obtain ⟨kO, hkO, hnameO⟩ := Vm.findClass_spec (findClass_of_methodNamed hnO)
  obtain ⟨hnmO, hdsO⟩ := name_of_methodNamed hnO hmO
  obtain ⟨ci1, n1, cf, hl1, hr1, hcf, hp1⟩ := Cond.linkedMethod hc hk hnO (W (.methodLink tN 1 oInit) (by simp [Jvm.Free.Exc.excAtoms, throwableAtoms]) (by simp)) pl hpl
  obtain ⟨ci27, n27, cf2, hl27, hr27, hcf2, hp27⟩ := Cond.linkedMethod hc hk hnF (W (.methodLink tN 27 tFill) (by simp [Jvm.Free.Exc.excAtoms, throwableAtoms]) (by simp)) pl hpl
  cases hcf.symm.trans hcf2
  obtain ⟨ci202, n202, cf3, hl202, hr202, hcf3, hp202⟩ := Cond.linkedMethod hc hk hn0 (W (.methodLink tN 202 tFill0) (by simp [Jvm.Free.Exc.excAtoms, throwableAtoms]) (by simp)) pl hpl
  cases hcf.symm.trans hcf3
  have wC := W (.lays rc tN "cause" "Ljava/lang/Throwable;") (by simp [Jvm.Free.Exc.excAtoms, Jvm.Free.Exc.thD]) (by simp)
  have wS := W (.lays rc tN "stackTrace" steD) (by simp [Jvm.Free.Exc.excAtoms]) (by simp)
  have wM := W (.lays rc tN "detailMessage" "Ljava/lang/String;") (by simp [Jvm.Free.Exc.excAtoms, Jvm.Free.Exc.msgD]) (by simp)
  obtain ⟨ci7, i7, f7, hk7, hg7, ha7, hs7, hf7, hn7, ht7, hff7⟩ := Cond.ownField (t := .object tN) hc hk (by decide +kernel) (W (.fieldLink tN 7 tN "cause" "Ljava/lang/Throwable;") (by simp [Jvm.Free.Exc.excAtoms, throwableAtoms]) (by simp)) (W (.lays tN tN "cause" "Ljava/lang/Throwable;") (by simp [Jvm.Free.Exc.excAtoms, throwableAtoms]) (by simp)) pl hpl
  obtain ⟨ci17, i17, f17, hk17, hg17, ha17, hs17, hf17, hn17, ht17, hff17⟩ := Cond.ownField (t := .array (.object "java/lang/StackTraceElement")) hc hk (by decide +kernel) (W (.fieldLink tN 17 tN "stackTrace" steD) (by simp [Jvm.Free.Exc.excAtoms, throwableAtoms]) (by simp)) wS pl hpl
  have wP : (Jvm.Cond.lays rc tN "suppressedExceptions" listD).before args s = true := W _ (by simp [Jvm.Free.Exc.excAtoms]) (by simp [hrc])
  obtain ⟨ci24, i24, f24, hk24, hg24, ha24, hs24, hf24, hn24, ht24, hff24⟩ := Cond.ownField (t := .object "java/util/List") hc hk (by decide +kernel) (W (.fieldLink tN 24 tN "suppressedExceptions" listD) (by simp [Jvm.Free.Exc.excAtoms, throwableAtoms]) (by simp)) wP pl hpl
  obtain ⟨ci13, i13, f13, aS, cellS, hk13, hg13, ha13, hs13, -, -, hsta, hcellS, hissS, -, -, hff13⟩ := Cond.ownStatic (t := .array (.object "java/lang/StackTraceElement")) hc hk (by decide +kernel) (W (.fieldLink tN 13 tN "UNASSIGNED_STACK" steD) (by simp [Jvm.Free.Exc.excAtoms, throwableAtoms]) (by simp)) (W (.laysStatic tN "UNASSIGNED_STACK" steD) (by simp [Jvm.Free.Exc.excAtoms, throwableAtoms]) (by simp)) pl hpl
  obtain ⟨ci20, i20, f20, _, _, hk20, hg20, ha20, hs20, -, -, -, -, -, -, -, hff20⟩ := Cond.ownStatic (t := .object "java/util/List") hc hk (by decide +kernel) (W (.fieldLink tN 20 tN "SUPPRESSED_SENTINEL" listD) (by simp [Jvm.Free.Exc.excAtoms, throwableAtoms]) (by simp)) (W (.laysStatic tN "SUPPRESSED_SENTINEL" listD) (by simp [Jvm.Free.Exc.excAtoms, throwableAtoms]) (by simp)) pl hpl
  obtain ⟨_, _, cM, kM, iM, fM, _, _, hffM, hsM, hfM, _⟩ := Cond.lays_spec wM
  obtain ⟨-, dS, hdS, hdnS⟩ := Cond.laysAt hfound hkX hff17 wS
  obtain ⟨-, dP, hdP, hdnP⟩ := Cond.laysAt hfound hkX hff24 wP
  have hapart : f17.slot ≠ f24.slot := Cond.laysApart hdS hdP hdnS hdnP (by rw [hn17, hn24]; decide)
  have pF : methF.sig.parameters = [] := by
    have t : (parseMethodDescriptor tFill.desc).map (·.parameters) = some [] := by decide +kernel
    rw [hsigF] at t; simpa using t
  have p0 : meth0.sig.parameters = [.int] := by
    have t : (parseMethodDescriptor tFill0.desc).map (·.parameters) = some [.int] := by decide +kernel
    rw [hsig0] at t; simpa using t
  have pO : methO.sig.parameters.length = 0 := by
    have t : (parseMethodDescriptor oInit.desc).map (·.parameters.length) = some 0 := by decide +kernel
    rw [hsigO] at t; simpa using t
  refine ⟨{ cT := c, kT := k, cO := c, aS := aS, fillIdx := iF, fill0Idx := i0, initSIdx := iF, obj := mO, kObj := kO, methFill := methF, methFill0 := meth0, methInitS := methF, methObj := methO, codeFill := cF, codeInitS := cF, codeObj := cO,
              fBack := f7, fDepth := f7, fStack := f17, fCause := f7, fSupp := f24, fMsg := fM, fUnassigned := f13, fSentinel := f20, cfT := cf, ci1 := ci1, n1 := n1, ci27 := ci27, n27 := n27, ci202 := ci202, n202 := n202,
              ci7 := ci7, i7 := i7, ci13 := ci13, i13 := i13, ci17 := ci17, i17 := i17, ci20 := ci20, i20 := i20, ci24 := ci24, i24 := i24 }, ?_, hc, hnF, hn0, ⟨_, hff17⟩, ht17, ⟨_, hff13⟩, cellS, hcellS, hissS⟩
  exact { owns := howns, noFinalization := hfin, cls := hk, name := hname, boot := Vm.findClass_boot hc hk, notInterface := hni, initialized := Cond.initialized_spec hc hk (W (.initialized tN) (by simp [Jvm.Free.Exc.excAtoms, throwableAtoms]) (by simp)), statics := hsta,
          fillAt := hatF, fillCode := hcF, fillBytes := hbF, fillLocals := hlF, fillLocks := hlkF, fillStatic := hstF, fillAbstract := habF, fillReturns := hrF, fillParams := pF,
          fill0At := hat0, fill0Name := hnm0, fill0Desc := hds0, fill0Params := p0, fill0Static := hst0, fill0Native := hnat0, fill0Code := hcode0, fill0Locks := hlocks0, fill0Abstract := hab0,
          stackInstance := hs17, stackNotFinal := hf17, unassignedStatic := hs13,
          objClass := hkO, objClassName := hnameO, objMethod := hmO, objName := hnmO, objStatic := hstO, objAbstract := habO, objFound := by rw [hdsO]; exact lookupSpecial_of_named hnO hmO hstO, objParams := pO,
          objCode := hcO, objBytes := hbO, objLocks := hlkO, causeInstance := hs7, causeNotFinal := hf7, sentinelStatic := hs20, suppInstance := hs24, suppNotFinal := hf24, msgInstance := hsM, msgNotFinal := hfM, stackApartSupp := hapart,
          file := hcf, mlink1 := hl1, mright1 := hr1, pool1 := hp1, mlink27 := hl27, mright27 := hr27, pool27 := hp27, mlink202 := hl202, mright202 := hr202, pool202 := hp202,
          link7 := hk7, right7 := hg7, at7 := ha7, link13 := hk13, right13 := hg13, at13 := ha13, link17 := hk17, right17 := hg17, at17 := ha17, link20 := hk20, right20 := hg20, at20 := ha20, link24 := hk24, right24 := hg24, at24 := ha24 }
end OwnFill
end Jvm.Pilot.@@N@@
namespace Jvm.Pilot.@@N@@
open Jvm Jvm.ClassFile Sem Op Lib Jvm.Free Jvm.Stand Jvm.LawKit Jvm.RoadKit Bundle Jvm.Pilot.@@N@@.Jvm.D
section OwnFill2
variable {p : Program} {l : Launch} {e : Env} {R : Room} {s : State} {m : MethodId} {args : Array Value} {below : List Frame} {meth : Method} {c : Code} {T : State} {locs : List Loc} {cells slots : Nat} {Z : State} {a0 : Array Value} {h : Heap}
/-- the call of fillInStackTrace() in a constructor of Throwable -/
theorem own_cFill (X : Stand p l e R s m args below meth c T locs cells slots) (hx : p.tables.exec = Jvm.exec) (hl : l.stackTraces = true) (hZ : Z.Warmed39 s.vm) {rc : String} (hrc : rc ≠ tN) (hown : s.vm.findClass tN = some m.cls) {n0 : Nat} (wi : (Cond.instantiable rc n0).before a0 Z = true)
    (hW : ∀ d ∈ Jvm.Free.Exc.excAtoms rc, d ≠ own_bad → d.before a0 Z = true) (hT0 : ThS Z s.heap) (hTK : s.vm.MethodsKnown) (hBelow : s.vm.FramesKnown below) (eT : T.heap = h) {a : Addr} {u0 : Value} (hu : u0.isRef = true) (E : Exa Z h a rc) (N : Unt h a)
    (S : Fld Z h a tN "stackTrace" steD u0) (B : Fld Z h a tN "backtrace" Jvm.Free.Exc.obD .null) (U : Sta Z h tN "UNASSIGNED_STACK" steD u0) {pc : Nat} {Ls : Array Slot} {rest : List Value} (hsize : Ls.size = c.maxLocals) (hd : decode c.code pc = .ok (.invokevirtual 27, 3))
    (hf : 3 ≤ R.frames) {W0 : Nat} (hW0 : (rest.map fun v => v.category).sum ≤ W0) (hlo : W0 + 42 ≤ R.locals) (hcl : cells + 1 ≤ R.cells) (hsl : slots + 2752 ≤ R.slots) :
    ∃ T' h' L, Stand p l e R s m args below meth c T' (locs ++ L) (cells + 1) (slots + 2752) ∧ T'.heap = h' ∧ (∀ x ∈ L, x.base = a) ∧ Exa Z h' a rc ∧
      (∀ {O n d : String} {v : Value}, Fld Z h a O n d v → Jvm.RoadKit.slotOf Z O n d ≠ Jvm.RoadKit.slotOf Z tN "backtrace" Jvm.Free.Exc.obD → Jvm.RoadKit.slotOf Z O n d ≠ Jvm.RoadKit.slotOf Z tN "depth" "I" → Jvm.RoadKit.slotOf Z O n d ≠ Jvm.RoadKit.slotOf Z tN "stackTrace" steD → Fld Z h' a O n d v) ∧
      ∀ t, Steps p.tables e below (T'.setTop (mkF m (pc + 3) Ls (.ref a :: rest))) t → Steps p.tables e below (T.setTop (mkF m pc Ls (.ref a :: rest))) t := by
  have W : ∀ d ∈ Jvm.Free.Exc.excAtoms rc, d ≠ own_bad → d.before args s = true := fun d hd hne => mvX hT0 hZ (List.all_eq_true.mp exc_ok d hd) (hW d hd hne)
  obtain ⟨cell, kc, e1, e2, e3, e4, e5⟩ := E
  obtain ⟨c2, u1, u2, u3⟩ := N
  cases e1.symm.trans u1
  have hfound : s.vm.findClass rc = some cell.cls := by rw [hZ.alike.findClass]; exact e2
  obtain ⟨kX, hkX, hkE⟩ := hZ.alike.2.2 _ _ e3
  obtain ⟨c4, k2, i1, i2, i3, -⟩ := Cond.instantiable_spec wi
  cases e2.symm.trans i1
  cases e3.symm.trans i2
  have hord : kX.kind = .ordinary := by rw [hkE]; exact i3
  have hsz : cell.slots.size = kX.instanceTypes.size := by rw [hkE]; exact e5 i3
  have htr : e.platform.stackTraces = true := by rw [X.admits.platform]; exact hl
  have howns : e.platform.frameOwnsMonitors = true := by rw [X.admits.platform]
  have hfin : e.platform.finalization = false := by rw [X.admits.platform]
  have hpl : e.platform.magicAccessors = ({} : Platform).magicAccessors := by rw [X.admits.platform]
  obtain ⟨TT, LL, Yf, hF, hF0, ⟨iS, hffS⟩, hST, ⟨iU, hffU⟩, cs0, hcs0, hiss⟩ := own_links hrc howns hfin hpl hfound hkX W
  obtain ⟨cfU, iU2, kU, fU, stU, cellS, g1, g2, g3, g4, g5, g6, g7⟩ := U
  obtain ⟨kU', gU, hekU⟩ := State.fieldFound?_setVm (s := Z) hZ.alike g1
  cases (show s.fieldFound? tN "UNASSIGNED_STACK" steD = _ from gU).symm.trans hffU
  have hst : TT.aS = stU := by
    have q := LL.statics
    rw [hekU] at q
    exact Option.some.inj (q.symm.trans g4)
  have hcellS : T.heap[TT.aS]? = some cellS := by rw [eT, hst]; exact g5
  have hneS : TT.aS ≠ a := fun q => by
    rw [hst] at q
    rw [q, e1] at g5
    cases g5
    rw [u2] at g6
    cases g6
  have hknS : cellS.vm ≠ .unknown := fun q => by rw [q] at g6; cases g6
  have hsel0 : selectMethod e.platform s.vm cell.cls TT.fill0 = .method TT.fill0 := by
    obtain ⟨c2, r2, m2, q1, q2, q3, q4, -⟩ := Cond.selects_spec (W (.selects rc tFill0 tFill0) (by simp [Jvm.Free.Exc.excAtoms]) (by simp))
    cases q1.symm.trans hfound
    cases q2.symm.trans (State.methodFound?_of_named hF0 (by decide))
    cases q3.symm.trans hF0
    rw [Launch.admits_selectMethod X.admits]; exact q4
  obtain ⟨c5, cfS, kfS, iS2, fS, s1, s2, -, -, -, -, s7⟩ := S
  cases e1.symm.trans s1
  obtain ⟨kS', gS, -⟩ := State.fieldFound?_setVm (s := Z) hZ.alike s2
  cases (show s.fieldFound? tN "stackTrace" steD = _ from gS).symm.trans hffS
  obtain ⟨ci198, i198, fB, hk198, hg198, ha198, hsB, -, hnB, htB, hffB⟩ := Cond.ownField (t := .object "java/lang/Object") Yf LL.cls (by decide +kernel) (W (.fieldLink tN 198 tN "backtrace" Jvm.Free.Exc.obD) (by simp [Jvm.Free.Exc.excAtoms]) (by simp)) (W (.lays tN tN "backtrace" Jvm.Free.Exc.obD) (by simp [Jvm.Free.Exc.excAtoms]) (by simp)) e.platform hpl
  obtain ⟨c6, cfB, kfB, iB, fB2, b1, b2, -, -, -, -, b7⟩ := B
  cases e1.symm.trans b1
  obtain ⟨kB', gB, -⟩ := State.fieldFound?_setVm (s := Z) hZ.alike b2
  cases (show s.fieldFound? tN "backtrace" Jvm.Free.Exc.obD = _ from gB).symm.trans hffB
  have wD := W (.lays rc tN "depth" "I") (by simp [Jvm.Free.Exc.excAtoms]) (by simp)
  obtain ⟨cD1, kD1, cD, kD, iD, fD, -, -, hffD, hstD, -, -, -, -⟩ := Cond.lays_spec wD
  cases (Cond.lays_declared wD hffD).symm.trans Yf
  obtain ⟨hkD, hatD⟩ := State.fieldFound?_spec hffD
  cases hkD.symm.trans LL.cls
  obtain ⟨hnD, htD⟩ := State.fieldFound?_type hffD (t := .int) (by decide +kernel)
  have hfb := Cond.soleField_find Yf LL.cls (W (.soleField tN "backtrace") (by simp [Jvm.Free.Exc.excAtoms]) (by simp)) ha198 hnB hsB
  have hfd := Cond.soleField_find Yf LL.cls (W (.soleField tN "depth") (by simp [Jvm.Free.Exc.excAtoms]) (by simp)) hatD hnD hstD
  obtain ⟨comp, cO, kO, -, -, hkO, hkindO, hO⟩ := Cond.arrayOver_spec (W (.arrayOver (.object "java/lang/Object")) (by simp [Jvm.Free.Exc.excAtoms]) (by simp))
  obtain ⟨tyS, -⟩ := Cond.laysAt hfound hkX hffS (W (.lays rc tN "stackTrace" steD) (by simp [Jvm.Free.Exc.excAtoms]) (by simp))
  obtain ⟨tyB, -⟩ := Cond.laysAt hfound hkX hffB (W (.lays rc tN "backtrace" Jvm.Free.Exc.obD) (by simp [Jvm.Free.Exc.excAtoms]) (by simp))
  obtain ⟨tyD, -⟩ := Cond.laysAt hfound hkX hffD wD
  have tk : ∀ {f : Field} {v : Value}, kX.instanceTypes[f.slot]? = some f.type → fits f.type v = true → Jvm.Takes s cell f v := fun {f v} h1 h2 => by
    obtain ⟨q1, q2⟩ := Takes.of_laid (v := v) hkX hord h1 h2
    exact ⟨by rw [hsz]; simpa using q1, by rw [u2]; exact q2⟩
  have hSE := W (.selects rc tFill tFill) (by simp [Jvm.Free.Exc.excAtoms]) (by simp)
  obtain ⟨v6, vm6, ⟨T6, L6, n6c, n6⟩, -, X6, ⟨hv6, C6, n, hn, hD6, q1, q2, q3, q4, hL6, hc6, hn6'⟩, st⟩ := X.virtualBack hx (own := tN) (C := rc) (index := 27) (y := tFill) (z := tFill) hown (W (.methodLink tN 27 tFill) (by simp [Jvm.Free.Exc.excAtoms, throwableAtoms]) (by simp)) (W (.declares tFill) (by simp [Jvm.Free.Exc.excAtoms]) (by simp)) (notFace_of_selects hSE) hSE (W (.instanceMethod tFill) (by simp [Jvm.Free.Exc.excAtoms, throwableAtoms]) (by simp)) (by decide)
    (Jvm.Free.Exc.fillPaysAny (l := l) (W := W0) hx htr TT LL hF (u0 := ⟨u0, hu⟩) (self := a) (cell := cell) (cellS := cellS) (fun _ => by rw [u2]; simp) (by rw [u2]; simp) (by rw [u3]) (by rw [u3]) s7 hsel0 hneS hknS g7 (tk tyS (by rw [hST]; exact fits_refV_array _ ⟨u0, hu⟩))
      ⟨{ ci198 := ci198, i198 := i198, fBack := fB }, ⟨hk198, hg198, ha198, hsB⟩, b7⟩ hTK hBelow Yf hO hkO hkindO hfb hfd
      (fun x => tk tyB (by rw [htB]; rfl)) (fun x => tk tyD (by rw [htD]; rfl)) (by omega) hlo)
    (b := a) (cB := cell.cls) hfound ⟨cell, by rw [eT]; exact e1, rfl, by rw [u2]; rfl⟩ (g := mkF m pc Ls (.ref a :: rest)) rfl hsize (Steps.refl _) (argsL := []) (rest := rest)
    (fun sig h => by rw [show parseMethodDescriptor tFill.desc = some ⟨[], some (.object tN)⟩ from by decide +kernel] at h; rw [← Option.some.inj h]; rfl) rfl (by simpa using hW0) hd
    (fun vmx hWx => ⟨rfl, hcl, hsl, by show T.heap[a]? = _; rw [eT]; exact e1, hcellS⟩)
  dsimp only [Pt.U, Pt.locs, Pt.cells, Pt.slots] at X6 hD6 hL6 hc6 hn6' st
  subst hv6 hL6 hc6 hn6'
  have sl : ∀ {nm ds : String} {cc : ClassId} {kk : Class} {ii : Nat} {ff : Field}, s.fieldFound? tN nm ds = some (cc, kk, ii, ff) → Jvm.RoadKit.slotOf Z tN nm ds = ff.slot := fun {nm ds cc kk ii ff} q => by
    obtain ⟨cz, kz, iz, gz⟩ := Jvm.Free.BdW.found_ride (U := s) (U' := Z) hZ.alike.symm ⟨cc, kk, ii, q⟩
    simp [Jvm.RoadKit.slotOf, gz]
  refine ⟨T6, T6.heap, _, X6.more (Nat.le_refl _) (by omega), rfl, ?_, ⟨C6, kc, hD6, by rw [q1]; exact e2, by rw [q1]; exact e3, by rw [q2, u2]; rfl, fun z => by rw [q3]; exact e5 z⟩, ?_, fun t q => st.trans q⟩
  · intro x hxm
    simp only [List.mem_cons, List.not_mem_nil, or_false] at hxm
    rcases hxm with rfl | rfl | rfl <;> rfl
  · intro O nm ds v F n1 n2 n3
    obtain ⟨cx, cf, k, i, f, h1, h2, h3, h4, h5, h6, h7⟩ := F
    cases e1.symm.trans h1
    have es : Jvm.RoadKit.slotOf Z O nm ds = f.slot := by simp [Jvm.RoadKit.slotOf, h2]
    rw [es, sl hffB] at n1
    rw [es, sl hffD] at n2
    rw [es, sl hffS] at n3
    exact ⟨C6, cf, k, i, f, hD6, h2, h3, by rw [q2]; exact h4, by rw [q2]; exact h5, by rw [q1]; exact h6, by rw [q4 _ n1 n2 n3]; exact h7⟩
/-- what a walk keeps of the cells that lay there at its start, from its places -/
theorem own_keepSame {a : Addr} (X : Stand p l e R s m args below meth c T locs cells slots) (hL : ∀ x ∈ locs, x.base = a) : Keep s.heap T.heap [a] := by
  obtain ⟨-, g1, -, -, -, g2⟩ := X.same
  refine ⟨g1, fun x cl q ne => ?_, fun x cl q => ?_⟩
  · obtain ⟨c', q1, q2, q3, q4⟩ := g2 x cl q
    have e : c'.slots = cl.slots := Array.ext_getElem? fun i => q4 i fun hm => ne (by rw [← hL _ hm]; simp)
    have q1' : T.heap[x]? = some c' := q1
    rw [q1', q2, e]
  · obtain ⟨c', q1, q2, q3, -⟩ := g2 x cl q
    exact ⟨c', q1, by rw [q2], by rw [q2], q3⟩
end OwnFill2
end Jvm.Pilot.@@N@@
namespace Jvm.Pilot.@@N@@
open Jvm Jvm.ClassFile Sem Op Lib Jvm.Free Jvm.Stand Jvm.LawKit Jvm.RoadKit Bundle Jvm.Pilot.@@N@@.Jvm.D
theorem own_b0 {a : Addr} : ∀ x ∈ ([] : List Loc), x.base = a := nofun
theorem own_bS {a : Addr} {i : Nat} {l : List Loc} (h : ∀ x ∈ l, x.base = a) : ∀ x ∈ l ++ [(⟨a, i⟩ : Loc)], x.base = a := fun x hx => by
  rcases List.mem_append.mp hx with hx | hx
  · exact h x hx
  · rw [List.mem_singleton.mp hx]
theorem own_bA {a : Addr} {l l' : List Loc} (h : ∀ x ∈ l, x.base = a) (h' : ∀ x ∈ l', x.base = a) : ∀ x ∈ l ++ l', x.base = a := fun x hx => by
  rcases List.mem_append.mp hx with hx | hx
  · exact h x hx
  · exact h' x hx
end Jvm.Pilot.@@N@@
namespace Jvm.Pilot.@@N@@
open Jvm Jvm.ClassFile Sem Op Lib Jvm.Free Jvm.Stand Jvm.LawKit Jvm.RoadKit Bundle Jvm.Pilot.@@N@@.Jvm.D
theorem own_addN (a b : Nat) : Int32.ofNat a + Int32.ofNat b = Int32.ofNat (a + b) := by
  apply Int32.toBitVec_inj.mp
  show BitVec.ofNat 32 a + BitVec.ofNat 32 b = BitVec.ofNat 32 (a + b)
  apply BitVec.eq_of_toNat_eq; simp
theorem own_subN {a b : Nat} (h : b ≤ a) : Int32.ofNat a - Int32.ofNat b = Int32.ofNat (a - b) := by
  have q := own_addN (a - b) b
  rw [Nat.sub_add_cancel h] at q
  rw [← q]
  apply Int32.toBitVec_inj.mp
  simp [Int32.toBitVec_sub, Int32.toBitVec_add]
theorem own_shr0 (x : Int32) : x >>> ((0 : Int32) &&& 31) = x := by
  have e : ((0 : Int32) &&& 31) = 0 := by decide
  rw [e]; simp
theorem own_shl0 (x : Int32) : x <<< ((0 : Int32) &&& 31) = x := by
  have e : ((0 : Int32) &&& 31) = 0 := by decide
  rw [e]; simp
theorem own_ltN {i j : Nat} (hj : j < 2 ^ 31) (h : i < j) : Int32.ofNat i < Int32.ofNat j := by
  rw [Int32.lt_iff_toInt_lt, Int32.toInt_ofNat_small (by omega), Int32.toInt_ofNat_small hj]; omega
theorem own_nltN {i j : Nat} (hi : i < 2 ^ 31) (h : ¬ i < j) : ¬ Int32.ofNat i < Int32.ofNat j := by
  rw [Int32.lt_iff_toInt_lt, Int32.toInt_ofNat_small hi, Int32.toInt_ofNat_small (by omega)]; omega
theorem own_ltI {i j : Nat} (hi : i < 2 ^ 31) (hj : j < 2 ^ 31) (h : Int32.ofNat i < Int32.ofNat j) : i < j := by
  rw [Int32.lt_iff_toInt_lt, Int32.toInt_ofNat_small hi, Int32.toInt_ofNat_small hj] at h; omega
theorem own_eqN {i j : Nat} (hi : i < 2 ^ 31) (hj : j < 2 ^ 31) (h : Int32.ofNat i = Int32.ofNat j) : i = j := by
  have q := congrArg Int32.toInt h
  rw [Int32.toInt_ofNat_small hi, Int32.toInt_ofNat_small hj] at q; omega
theorem own_nnN {i : Nat} (hi : i < 2 ^ 31) : ¬ Int32.ofNat i < 0 := by
  rw [Int32.lt_iff_toInt_lt, Int32.toInt_ofNat_small hi]; show ¬ (i : Int) < 0; omega
theorem own_clN {i : Nat} (hi : i < 2 ^ 31) : (Int32.ofNat i).toNatClampNeg = i := by
  simp only [Int32.toNatClampNeg, Int32.toInt_ofNat_small hi]; rfl
/-- i - j, where j may be the greater: 0 below it or not -/
theorem own_posN {i j : Nat} (hi : i < 2 ^ 30) (hj : j < 2 ^ 30) : ((0 : Int32) < Int32.ofNat i - Int32.ofNat j) ↔ j < i := by
  have c := c_isub (Int32.ofNat i) (Int32.ofNat j)
  have r := rng32 (Int32.ofNat i - Int32.ofNat j)
  rw [Int32.toInt_ofNat_small (by omega), Int32.toInt_ofNat_small (by omega)] at c
  rw [Int32.lt_iff_toInt_lt]
  have e0 : (0 : Int32).toInt = 0 := rfl
  omega
theorem own_sub0 (x : Int32) : x - (0 : Int32) = x := by
  apply Int32.toBitVec_inj.mp
  simp [Int32.toBitVec_sub]
theorem own_decN {i : Nat} (h : 1 ≤ i) : Int32.ofNat i + (-1 : Int32) = Int32.ofNat (i - 1) := by
  have q := own_subN h
  rw [← q]
  apply Int32.toBitVec_inj.mp
  simp [Int32.toBitVec_sub, Int32.toBitVec_add, BitVec.sub_eq_add_neg]
section OwnStart
variable {s : State} {args : Array Value} {t u : Jvm.Term} {a b : Addr} {cl : Cell} {ty : FieldType} {n j : Int32}
theorem own_len (h : (Jvm.Cond.eq (.length t) (.int n)).value args s none s [] = some true) (ev : t.eval args s none [] s = some (.ref a)) (A : RoadKit.Arr s s.heap a cl ty) : cl.slots.size < 2 ^ 31 ∧ cl.slots.size.toInt32 = n := by
  have hA := A.fin (Vm.Alike.refl _)
  by_cases q : cl.slots.size < 2 ^ 31
  · have e1 := len_f (s := s) ev hA q
    exact ⟨q, gotT (Cond.eq_ints e1 (Term.int_eval n)) h⟩
  · exfalso
    have e1 : (Jvm.Term.length t).eval args s none [] s = none := by simp [Term.eval, ev, hA, q]
    simp [Cond.value, e1] at h
theorem own_elemI (h : (Jvm.Cond.eq (.elem t (.int j)) (.int n)).value args s none s [] = some true) (ev : t.eval args s none [] s = some (.ref a)) (A : RoadKit.Arr s s.heap a cl ty) (hj : ¬ j < 0) : cl.slots[j.toNatClampNeg]? = some (.int n) := by
  have e1 := elem_f (s := s) (first := s) (o := none) (idx := []) (args := args) ev (Term.int_eval j) (A.fin (Vm.Alike.refl _)) hj
  obtain ⟨x, y, h1, h2, h3, h4⟩ := cmp_v (Or.inl h)
  rw [Term.int_eval] at h2
  cases h2
  cases x with
  | int x =>
    have q := gotT (Cond.eq_ints h1 (Term.int_eval n)) h
    rw [← e1, h1, q]
  | _ => simp [Kin, Value.isRef] at h3 h4
theorem own_elemR (h : (Jvm.Cond.eq (.elem t (.int j)) u).value args s none s [] = some true) (ev : t.eval args s none [] s = some (.ref a)) (A : RoadKit.Arr s s.heap a cl ty) (hj : ¬ j < 0) (eu : u.eval args s none [] s = some (.ref b)) : cl.slots[j.toNatClampNeg]? = some (.ref b) := by
  have e1 := elem_f (s := s) (first := s) (o := none) (idx := []) (args := args) ev (Term.int_eval j) (A.fin (Vm.Alike.refl _)) hj
  obtain ⟨x, y, h1, h2, h3, h4⟩ := cmp_v (Or.inl h)
  rw [eu] at h2
  cases h2
  have hr : x.isRef = true := by cases x <;> simp [Kin, Value.isRef] at h3 h4 ⊢
  have q := gotT (eq_R h1 eu hr rfl) h
  rw [← e1, h1, q]
theorem own_fldI {C f d : String} (h : (Jvm.Cond.eq (.field t C f d) (.int n)).value args s none s [] = some true) (ev : t.eval args s none [] s = some (.ref a)) : Fld s s.heap a C f d (.int n) := by
  obtain ⟨x, y, h1, h2, h3, h4⟩ := cmp_v (Or.inl h)
  rw [Term.int_eval] at h2
  cases h2
  cases x with
  | int x =>
    have q := gotT (Cond.eq_ints h1 (Term.int_eval n)) h
    subst q
    rw [fld_at ev] at h1
    exact Fld.start h1
  | _ => simp [Kin, Value.isRef] at h3 h4
theorem own_fldR {C f d : String} {v : Value} (e : (Jvm.Term.field t C f d).eval args s none [] s = some v) (ev : t.eval args s none [] s = some (.ref a)) : Fld s s.heap a C f d v := by
  rw [fld_at ev] at e
  exact Fld.start e
theorem own_hasl1 {v : Value} {r : List Value} {i : Nat} (h : cl.slots[i]? = some v) (q : HasL cl (i + 1) r) : HasL cl i (v :: r) := ⟨h, q⟩
end OwnStart
section OwnStart2
variable {s : State} {args : Array Value} {t u G X : Jvm.Term} {a b : Addr} {cl : Cell} {ty : FieldType} {n j v : Int32} {i : Nat} {idx : List Nat}
theorem own_orF {G X : Jvm.Cond} (hG : G.value args s none s idx = some false) (h : (Jvm.Cond.or G X).value args s none s idx = some true) : X.value args s none s idx = some true := by rw [Cond.or_of_right hG] at h; exact h
theorem own_elE (h : (Jvm.Cond.eq (.elem t (.index 0)) u).value args s none s [i] = some true) (ev : t.eval args s none [i] s = some (.ref a)) (A : RoadKit.Arr s s.heap a cl ty) (hi : i < 2 ^ 31) (eu : u.eval args s none [i] s = some (.int v)) : cl.slots[i]? = some (.int v) := by
  have e0 : (Jvm.Term.index 0).eval args s none [i] s = some (.int (Int32.ofNat i)) := rfl
  have e1 := elem_f (s := s) (first := s) (o := none) (idx := [i]) (args := args) ev e0 (A.fin (Vm.Alike.refl _)) (own_nnN hi)
  rw [own_clN hi] at e1
  obtain ⟨x, y, h1, h2, h3, h4⟩ := cmp_v (Or.inl h)
  rw [eu] at h2
  cases h2
  cases x with
  | int x =>
    have q := gotT (Cond.eq_ints h1 eu) h
    rw [← e1, h1, q]
  | _ => simp [Kin, Value.isRef] at h3 h4
theorem own_i64 {x y : Int32} (h : x.toInt64 = y.toInt64) : x = y := by
  have q := congrArg Int64.toInt h
  simp [Int32.toInt_toInt64] at q
  exact Int32.toInt_inj.mp q
theorem own_elL (h : (Jvm.Cond.eq (.op1 .i2l (.elem t (.index 0))) u).value args s none s [i] = some true) (ev : t.eval args s none [i] s = some (.ref a)) (A : RoadKit.Arr s s.heap a cl ty) (hi : i < 2 ^ 31) (eu : u.eval args s none [i] s = some (.long v.toInt64)) : cl.slots[i]? = some (.int v) := by
  have e0 : (Jvm.Term.index 0).eval args s none [i] s = some (.int (Int32.ofNat i)) := rfl
  have e1 := elem_f (s := s) (first := s) (o := none) (idx := [i]) (args := args) ev e0 (A.fin (Vm.Alike.refl _)) (own_nnN hi)
  rw [own_clN hi] at e1
  obtain ⟨x, y, h1, h2, h3, h4⟩ := cmp_v (Or.inl h)
  rw [eu] at h2
  cases h2
  have h1' := h1
  have h1 : ((Jvm.Term.elem t (.index 0)).eval args s none [i] s).bind (fun z => Unary.i2l.apply z) = some x := h1'
  rw [e1] at h1
  cases q : cl.slots[i]? with
  | none => rw [q] at h1; simp at h1
  | some w =>
    rw [q] at h1
    cases w with
    | int w =>
      have h1 : some (Value.long w.toInt64) = some x := h1
      cases h1
      simp [Cond.value, h1', eu] at h
      rw [own_i64 h]
    | _ => simp [Unary.apply] at h1
theorem own_exB {a0 : Array Value} (w : (Jvm.Cond.arrayClass .byte).before a0 s = true) (hx : (Jvm.Cond.exactly t "[B").value args s none s [] = some true) (ev : t.eval args s none [] s = some (.ref a)) (hl : (Jvm.Cond.eq (.length t) (.int n)).value args s none s [] = some true) : ∃ cl, RoadKit.Arr s s.heap a cl .byte := by
  obtain ⟨a3, c3, cell3, k3, e1, e2, e3, e4, e5, e6, -⟩ := Cond.exactly_spec (Cond.before_iff.mpr hx)
  cases ev.symm.trans e1
  obtain ⟨c4, k4, comp, f1, f2, f3⟩ := Cond.arrayClass_spec w
  obtain ⟨SA, hSA⟩ : ∃ SA, s.arrayAt? a = some SA := by
    cases q : s.arrayAt? a with
    | some x => exact ⟨x, rfl⟩
    | none => simp [Cond.value, Term.length_of_no_array ev q] at hl
  have hcell : s.heap[a]? = some SA ∧ SA.vm ≠ .unknown := by
    simp only [State.arrayAt?, Option.bind_eq_bind] at hSA
    cases q : s.heap[a]? with
    | none => simp [q] at hSA
    | some x => simp only [q, Option.bind_some] at hSA; grind
  cases hcell.1.symm.trans e3
  cases (show s.vm.findClass "[B" = some c4 from f1).symm.trans e2
  exact ⟨_, hcell.1, ⟨(fun q r => by rw [r] at e5; cases e5), k4, by rw [e6]; exact f2, comp, f3⟩, hcell.2⟩
theorem own_hasR (f : Nat → Value) : ∀ (m k : Nat), (∀ i, k ≤ i → i < k + m → cl.slots[i]? = some (f i)) → HasL cl k ((List.range' k m).map f)
  | 0, _, _ => trivial
  | m + 1, k, h => ⟨h k (Nat.le_refl _) (by omega), own_hasR f m (k + 1) fun i h1 h2 => h i (by omega) (by omega)⟩
end OwnStart2
theorem own_sizeN {m k : Nat} (h1 : m < 2 ^ 31) (h2 : m.toInt32 = Int32.ofNat k) (hk : k < 2 ^ 31) : m = k := own_eqN h1 hk h2
theorem own_DOe {s : State} {args : Array Value} {i : Nat} (hi : i < 100) : (Jvm.Term.add (.int 48) (.rem (.index 0) (.int 10))).eval args s none [i] s = some (.int (Int32.ofNat (48 + i % 10))) := by
  have key : ∀ i : Fin 100, (48 : Int32) + Int32.ofNat i.val % 10 = Int32.ofNat (48 + i.val % 10) := by decide +kernel
  have e : (Jvm.Term.add (.int 48) (.rem (.index 0) (.int 10))).eval args s none [i] s = some (.int ((48 : Int32) + Int32.ofNat i % 10)) := rfl
  rw [e, key ⟨i, hi⟩]
theorem own_DTe {s : State} {args : Array Value} {i : Nat} (hi : i < 100) : (Jvm.Term.add (.int 48) (.div (.index 0) (.int 10))).eval args s none [i] s = some (.int (Int32.ofNat (48 + i / 10))) := by
  have key : ∀ i : Fin 100, (48 : Int32) + Int32.ofNat i.val / 10 = Int32.ofNat (48 + i.val / 10) := by decide +kernel
  have e : (Jvm.Term.add (.int 48) (.div (.index 0) (.int 10))).eval args s none [i] s = some (.int ((48 : Int32) + Int32.ofNat i / 10)) := rfl
  rw [e, key ⟨i, hi⟩]
theorem own_max1 {g q : Nat} (hg : g < 2 ^ 30) (hq : q < 2 ^ 30) (h : Int32.ofNat g < Int32.ofNat q) : (some (Value.int (Int32.ofNat q)) : Option Value) = some (.int (Int32.ofNat (max g q))) := by
  have := own_ltI (by omega) (by omega) h
  rw [show max g q = q by omega]
theorem own_max2 {g q : Nat} (hg : g < 2 ^ 30) (hq : q < 2 ^ 30) (h : ¬ Int32.ofNat g < Int32.ofNat q) : (some (Value.int (Int32.ofNat g)) : Option Value) = some (.int (Int32.ofNat (max g q))) := by
  have : ¬ g < q := fun z => h (own_ltN (by omega) z)
  rw [show max g q = g by omega]
theorem own_min1 {g q : Nat} (hg : g < 2 ^ 30) (hq : q < 2 ^ 30) (h : Int32.ofNat q < Int32.ofNat g) : (some (Value.int (Int32.ofNat q)) : Option Value) = some (.int (Int32.ofNat (min g q))) := by
  have := own_ltI (by omega) (by omega) h
  rw [show min g q = q by omega]
theorem own_min2 {g q : Nat} (hg : g < 2 ^ 30) (hq : q < 2 ^ 30) (h : ¬ Int32.ofNat q < Int32.ofNat g) : (some (Value.int (Int32.ofNat g)) : Option Value) = some (.int (Int32.ofNat (min g q))) := by
  have : ¬ q < g := fun z => h (own_ltN (by omega) z)
  rw [show min g q = g by omega]
theorem own_neN {i j : Nat} (hi : i < 2 ^ 31) (hj : j < 2 ^ 31) (h : i ≠ j) : ¬ Int32.ofNat i = Int32.ofNat j := fun q => h (own_eqN hi hj q)
/-- a list with another laid into it -/
def own_cp (vd : List Value) (dp : Nat) (us : List Value) : List Value := vd.take dp ++ us ++ vd.drop (dp + us.length)
theorem own_cp_len {vd us : List Value} {dp : Nat} (h : dp + us.length ≤ vd.length) : (own_cp vd dp us).length = vd.length := by
  simp [own_cp]; omega
theorem own_cp_take {vd us : List Value} {dp : Nat} (h : dp ≤ vd.length) : (own_cp vd dp us).take (dp + us.length) = vd.take dp ++ us := by
  have e : (vd.take dp ++ us).length = dp + us.length := by simp; omega
  rw [own_cp, ← e, List.take_left]
theorem own_rng (vs : List Value) (dv : Value) (sp nn : Nat) (h : sp + nn ≤ vs.length) : ((List.range nn).map fun i => vs.getD (sp + i) dv) = (vs.drop sp).take nn := by
  apply List.ext_getElem
  · simp; omega
  · intro i h1 h2
    have h3 : i < nn := by simpa using h1
    have h4 : sp + i < vs.length := by omega
    simp [List.getD_eq_getElem?_getD, List.getElem?_eq_getElem h4]
theorem own_cpGrow {vs : List Value} {cap N : Nat} {d : Value} (hv : vs.length = cap) (h : cap ≤ N) : (own_cp (List.replicate N d) 0 ((vs.drop 0).take (min cap N))).length = N ∧ (own_cp (List.replicate N d) 0 ((vs.drop 0).take (min cap N))).take cap = vs := by
  have e : (vs.drop 0).take (min cap N) = vs := by rw [List.drop_zero, Nat.min_eq_left h, ← hv, List.take_length]
  rw [e]
  refine ⟨by rw [own_cp_len] <;> simp <;> omega, ?_⟩
  have := own_cp_take (vd := List.replicate N d) (us := vs) (dp := 0) (by omega)
  rw [Nat.zero_add, hv] at this
  rw [this]; simp
theorem own_cpAll {vs : List Value} {n cap : Nat} {d : Value} (hv : vs.length = cap) (h : n ≤ cap) : own_cp (List.replicate n d) 0 ((vs.drop 0).take (min cap n)) = vs.take n := by
  have e : (vs.drop 0).take (min cap n) = vs.take n := by rw [Nat.min_eq_right h]; simp
  rw [e, own_cp]; simp; omega
theorem own_tk {us : List Value} {lm : Nat} (h : us.length = lm) : (us.drop 0).take lm = us := by rw [List.drop_zero, ← h, List.take_length]
theorem own_cpT {vd us : List Value} {dp lm cap : Nat} (lu : us.length = lm) (lv : vd.length = cap) (h : dp ≤ cap) : (own_cp vd dp us).take (dp + lm) = vd.take dp ++ us := by rw [← lu]; exact own_cp_take (by omega)
theorem own_tkn {us vs : List Value} {n cap : Nat} (tk : us.take cap = vs) (h : n ≤ cap) : us.take n = vs.take n := by rw [← tk, List.take_take, Nat.min_eq_left h]
theorem own_cpG {vd us vs : List Value} {dp lm cap cp : Nat} (lu : us.length = lm) (lv : vd.length = cp) (h : dp ≤ cp) (tk : vd.take cap = vs) (h2 : dp ≤ cap) : (own_cp vd dp us).take (dp + lm) = vs.take dp ++ us := by rw [own_cpT lu lv h, own_tkn tk h2]
theorem own_set2 {vs : List Value} {n cap : Nat} {x y : Value} (la : vs.length = cap) (h : n + 2 ≤ cap) : ((vs.set (n + 2 - 1) x).set (n + 2 - 1 - 1) y).take (n + 2) = vs.take n ++ [y, x] := by
  rw [show n + 2 - 1 = n + 1 by omega, show n + 1 - 1 = n by omega]
  have e : vs = vs.take n ++ vs.drop n := (List.take_append_drop n vs).symm
  have hl : (vs.take n).length = n := by rw [List.length_take]; omega
  have hd : (vs.drop n).length = cap - n := by rw [List.length_drop]; omega
  generalize hA : vs.take n = A at e hl
  generalize vs.drop n = B at e hd
  subst e
  match B, hd with
  | [], hd => simp at hd; omega
  | [b], hd => simp at hd; omega
  | b :: b' :: r, _ =>
    subst hl
    simp [List.take_append]
    exact List.take_of_length_le (by omega)
section OwnCopy
variable {p : Program} {l : Launch} {e : Env} {R : Room} {s : State} {m : MethodId} {args : Array Value} {below : List Frame} {meth : Method} {c : Code} {T : State} {locs : List Loc} {cells slots : Nat} {Z : State} {a0 : Array Value} {h : Heap}
theorem own_acN (X : Stand p l e R s m args below meth c T locs cells slots) (hx : p.tables.exec = Jvm.exec) (hZ : Z.Warmed39 s.vm) {own : String} {index : Nat} (hown : s.vm.findClass own = some m.cls)
    (w1 : (Cond.methodLink own index Jvm.Stand.acN).before a0 Z = true) (w2 : (Cond.native Jvm.Stand.acN).before a0 Z = true) (w3 : (Cond.static Jvm.Stand.acN).before a0 Z = true) (w4 : (Cond.initialized "java/lang/System").before a0 Z = true) (eT : T.heap = h)
    {a b : Addr} {k k' : ClassId} {vs vd : List Value} {dv dd : Value} {n1 n2 sp dp nn : Nat} (A : Arv Z h a k .byte (Int32.ofNat n1) vs dv) (B : Arv Z h b k' .byte (Int32.ofNat n2) vd dd) (l1 : vs.length = n1) (l2 : vd.length = n2) (b1 : n1 < 2 ^ 31) (b2 : n2 < 2 ^ 31)
    (h4 : sp + nn ≤ n1) (h5 : dp + nn ≤ n2) {n0 : Nat} (N : Fr n0 locs) (ge : n0 ≤ b)
    {pc : Nat} {Ls : Array Slot} {rest : List Value} (hsize : Ls.size = c.maxLocals) (hd : decode c.code pc = .ok (.invokestatic index, 3)) (hf : 1 ≤ R.frames) {W : Nat} (hW : (rest.map fun v => v.category).sum ≤ W) (hlo : W + (nativeFrameWords "java/lang/System" "arraycopy" 5 + 11) ≤ R.locals) :
    ∃ T' h' L, Stand p l e R s m args below meth c T' L cells slots ∧ T'.heap = h' ∧ Fr n0 L ∧ Keep h h' [b] ∧ Arv Z h' b k' .byte (Int32.ofNat n2) (own_cp vd dp ((vs.drop sp).take nn)) dd ∧
      ∀ t, Steps p.tables e below (T'.setTop (mkF m (pc + 3) Ls rest)) t → Steps p.tables e below (T.setTop (mkF m pc Ls (.int (Int32.ofNat nn) :: .int (Int32.ofNat dp) :: .ref b :: .int (Int32.ofNat sp) :: .ref a :: rest))) t := by
  have q := own_acp X hx hZ hown w1 w2 w3 w4 eT A B (sp := Int32.ofNat sp) (dp := Int32.ofNat dp) (nn := Int32.ofNat nn) (own_nnN (by omega)) (own_nnN (by omega)) (own_nnN (by omega)) (by rw [own_clN (by omega), own_clN (by omega), own_clN (by omega)]; omega) (by rw [own_clN (by omega), own_clN (by omega), own_clN (by omega)]; omega) (by rw [own_clN (by omega), own_clN (by omega)]; omega) N ge (rest := rest) hsize hd hf hW hlo
  rw [own_clN (by omega), own_clN (by omega), own_clN (by omega), own_rng _ _ _ _ (by omega)] at q
  have e1 : ((vs.drop sp).take nn).length = nn := by simp; omega
  rw [own_cp, e1]
  exact q
end OwnCopy
abbrev own_EL : List (String × Nat) := [("com/example/titelfeld/titelfeld/command/CommandFailure", 32), ("com/example/titelfeld/titelfeld/command/CommandFailure", 34)]
theorem own_ew {Z : State} {a0 : Array Value} (hw : ∀ d ∈ tables_1, d.before a0 Z = true) : EW Z a0 own_EL := (EW.cons (hw _ (List.mem_of_getElem? (i := 54) rfl)) (by decide) (EW.cons (hw _ (List.mem_of_getElem? (i := 104) rfl)) (by decide) EW.nil))
theorem own_wS {Z : State} {a0 : Array Value} (hw : ∀ d ∈ tables_1, d.before a0 Z = true) : ∀ a ∈ Bundle.stringAtoms, a.before a0 Z = true := fun a ha => hw a ((by decide +kernel : ∀ a ∈ Bundle.stringAtoms, a ∈ tables_1) a ha)
theorem own_hws {Z : State} {a0 : Array Value} (hw : ∀ d ∈ tables_1, d.before a0 Z = true) : ∀ d ∈ StrChars.Road.words, d.before a0 Z = true := fun d hd => hw d ((by decide +kernel : ∀ d ∈ StrChars.Road.words, d ∈ tables_1) d hd)
theorem own_heq {Z : State} {a0 : Array Value} (hw : ∀ d ∈ tables_1, d.before a0 Z = true) : ∀ d ∈ StrChars.Road.wordsEq, d.before a0 Z = true := fun d hd => hw d ((by decide +kernel : ∀ d ∈ StrChars.Road.wordsEq, d ∈ tables_1) d hd)
theorem own_ef0 (m : MethodId) (x0 : Addr) : entryFrame m #[(.ref x0)] 1 = mkF m 0 #[.val (.ref x0)] [] := by first | (simp [entryFrame, mkF, argsToLocals, Value.category, maxLocals]; done) | rfl
theorem own_pn0 : plainName "java/lang/String" = true := by first | (simp [plainName, overriddenIn]; done) | decide +kernel
theorem own_d0_0 : decode jdk_42_method_152_code 0 = .ok (.getstatic 38, 3) := by decide +kernel
theorem own_d0_3 : decode jdk_42_method_152_code 3 = .ok (.ifCond .eq 10, 3) := by decide +kernel
theorem own_d0_6 : decode jdk_42_method_152_code 6 = .ok (.aload_n 0, 1) := by decide +kernel
theorem own_d0_7 : decode jdk_42_method_152_code 7 = .ok (.getfield 15, 3) := by decide +kernel
theorem own_d0_10 : decode jdk_42_method_152_code 10 = .ok (.goto 4, 3) := by decide +kernel
theorem own_d0_14 : decode jdk_42_method_152_code 14 = .ok (.ireturn, 1) := by decide +kernel
set_option maxRecDepth 65536 in
set_option maxHeartbeats 40000000 in
theorem own_rm_coder (l : Launch) (Z : State) (a0 : Array Value) (hw : ∀ d ∈ tables_1, d.before a0 Z = true) (ws : List Jvm.Cond) (x t : Addr) (kt : ClassId) (lm : Nat) (us : List Value) (z : Int32) (n0 : Nat) (h0 : Heap) (EX : Exa Z h0 x "java/lang/String") (FX : Fld Z h0 x "java/lang/String" "value" "[B" (.ref t)) (CX : Fld Z h0 x "java/lang/String" "coder" "B" (.int (0 : Int32))) (VX : Arv Z h0 t kt .byte (Int32.ofNat lm) us (.int (0 : Int32))) (lu : us.length = lm) (O : Sta Z Z.heap "java/lang/String" "COMPACT_STRINGS" "Z" (.int z)) (hz : ¬ z = (0 : Int32)) (X00 : Old Z n0 h0) :
    MetFree l (⟨"java/lang/String", "coder", "()B"⟩ : MethodName) (head1 (Jvm.Cond.code (⟨"java/lang/String", "coder", "()B"⟩ : MethodName) jdk_42_method_152_code 1 (some .byte) :: ws) ({ frames := 0, cells := 0, slots := 0, locals := 0 } : Room)) (fun aa U => aa = #[(.ref x)] ∧ Z.Warmed39 U.vm ∧ U.heap = h0) (fun _ _ _ _ _ => True) (fun _ U o_ U' => ∃ v L, o_ = .returned v ∧ (fun v h L => v = some (.int (0 : Int32)) ∧ L = [] ∧ h = h0) v U'.heap L ∧ FrameEnd U o_ U' L ({ frames := 0, cells := 0, slots := 0, locals := 0 } : Room).cells ({ frames := 0, cells := 0, slots := 0, locals := 0 } : Room).slots) := by
  refine MetFree.of_bodySF (plainFor_of_name own_pn0) hisR ?_
  intro p e s m args below meth c s₁ Bd hml0 hP hK
  obtain ⟨rfl, hZ, hh⟩ := hP
  have hx := Bd.exec
  have hby := Bd.bytes
  have hml : c.maxLocals = 1 := hml0
  have hlk : meth.locks = false := BodyLoose.notSynchronized Bd
  have hown : s.vm.findClass "java/lang/String" = some m.cls := findClass_of_methodNamed Bd.named
  have hnm := (name_of_methodNamed Bd.named Bd.method).1
  have X0 : Stand p l e ({ frames := 0, cells := 0, slots := 0, locals := 0 } : Room) s m #[(.ref x)] below meth c s₁ [] 0 0 := Stand.of_body Bd
  have e0 : s₁.heap = h0 := by rw [← hh, Bd.state]; rfl
  rw [own_ef0 m x]
  show own_Go p e below s ({ frames := 0, cells := 0, slots := 0, locals := 0 } : Room).cells ({ frames := 0, cells := 0, slots := 0, locals := 0 } : Room).slots (fun v h L => v = some (.int (0 : Int32)) ∧ L = [] ∧ h = h0) s₁ (mkF m 0 #[.val (.ref x)] [])
  have N0 := Fr.nil n0
  obtain ⟨T1, X1, e1, st1⟩ := getS2 X0 hx hZ hown (host := "") (Or.inl (hw _ (List.mem_of_getElem? (i := 14) rfl))) Via.refl e0 (O.ext X00.2) (g := (mkF m 0 #[.val (.ref x)] [])) rfl (hb hby own_d0_0)
  refine own_st (g' := (mkF m 3 #[.val (.ref x)] [(.int z)])) st1 ?_
  refine own_st (g' := (mkF m 7 #[.val (.ref x)] [(.ref x)])) (fun _ q => XS.ifNo X1.here hx rfl (hb hby own_d0_3) rfl ((if0 _ _).trans (feq hz).1) (XS.aloadN X1.here hx rfl (hb hby own_d0_6) rfl rfl (q))) ?_
  obtain ⟨T2, X2, e2, st2⟩ := getF X1 hx hZ hown (host := "") (Or.inl (hw _ (List.mem_of_getElem? (i := 26) rfl))) Via.refl e1 CX (g := (mkF m 7 #[.val (.ref x)] [(.ref x)])) rfl rfl (hb hby own_d0_7)
  refine own_st (g' := (mkF m 10 #[.val (.ref x)] [(.int (0 : Int32))])) st2 ?_
  refine own_st (g' := (mkF m 14 #[.val (.ref x)] [(.int (0 : Int32))])) (fun _ q => XS.goto X2.here hx rfl (pc0 := 10) (pc' := 14) rfl (hb hby own_d0_10) (by decide) (by decide) (q)) ?_
  exact own_goN X2 hlk hx (t := .byte) (by simp) Bd.returns (hb hby own_d0_14) ⟨rfl, rfl, e2⟩ (by decide) (by decide)
theorem own_d1_0 : decode jdk_42_method_54_code 0 = .ok (.aload_n 0, 1) := by decide +kernel
theorem own_d1_1 : decode jdk_42_method_54_code 1 = .ok (.getfield 9, 3) := by decide +kernel
theorem own_d1_4 : decode jdk_42_method_54_code 4 = .ok (.arraylength, 1) := by decide +kernel
theorem own_d1_5 : decode jdk_42_method_54_code 5 = .ok (.aload_n 0, 1) := by decide +kernel
theorem own_d1_6 : decode jdk_42_method_54_code 6 = .ok (.invokevirtual 335, 3) := by decide +kernel
theorem own_pd0 : parseMethodDescriptor "()B" = some ⟨[], some .byte⟩ := by decide +kernel
theorem own_d1_9 : decode jdk_42_method_54_code 9 = .ok (.ishr, 1) := by decide +kernel
theorem own_d1_10 : decode jdk_42_method_54_code 10 = .ok (.ireturn, 1) := by decide +kernel
set_option maxRecDepth 65536 in
set_option maxHeartbeats 40000000 in
theorem own_rm_slen (l : Launch) (Z : State) (a0 : Array Value) (hw : ∀ d ∈ tables_1, d.before a0 Z = true) (ws : List Jvm.Cond) (x t : Addr) (kt : ClassId) (lm : Nat) (us : List Value) (z : Int32) (n0 : Nat) (h0 : Heap) (EX : Exa Z h0 x "java/lang/String") (FX : Fld Z h0 x "java/lang/String" "value" "[B" (.ref t)) (CX : Fld Z h0 x "java/lang/String" "coder" "B" (.int (0 : Int32))) (VX : Arv Z h0 t kt .byte (Int32.ofNat lm) us (.int (0 : Int32))) (lu : us.length = lm) (O : Sta Z Z.heap "java/lang/String" "COMPACT_STRINGS" "Z" (.int z)) (hz : ¬ z = (0 : Int32)) (X00 : Old Z n0 h0) :
    MetFree l (⟨"java/lang/String", "length", "()I"⟩ : MethodName) (head1 (Jvm.Cond.code (⟨"java/lang/String", "length", "()I"⟩ : MethodName) jdk_42_method_54_code 1 (some .int) :: ws) ({ frames := 1, cells := 0, slots := 0, locals := 13 } : Room)) (fun aa U => aa = #[(.ref x)] ∧ Z.Warmed39 U.vm ∧ U.heap = h0) (fun _ _ _ _ _ => True) (fun _ U o_ U' => ∃ v L, o_ = .returned v ∧ (fun v h L => v = some (.int (Int32.ofNat lm)) ∧ L = [] ∧ h = h0) v U'.heap L ∧ FrameEnd U o_ U' L ({ frames := 1, cells := 0, slots := 0, locals := 13 } : Room).cells ({ frames := 1, cells := 0, slots := 0, locals := 13 } : Room).slots) := by
  refine MetFree.of_bodySF (plainFor_of_name own_pn0) hisR ?_
  intro p e s m args below meth c s₁ Bd hml0 hP hK
  obtain ⟨rfl, hZ, hh⟩ := hP
  have hx := Bd.exec
  have hby := Bd.bytes
  have hml : c.maxLocals = 1 := hml0
  have hlk : meth.locks = false := BodyLoose.notSynchronized Bd
  have hown : s.vm.findClass "java/lang/String" = some m.cls := findClass_of_methodNamed Bd.named
  have hnm := (name_of_methodNamed Bd.named Bd.method).1
  have X0 : Stand p l e ({ frames := 1, cells := 0, slots := 0, locals := 13 } : Room) s m #[(.ref x)] below meth c s₁ [] 0 0 := Stand.of_body Bd
  have e0 : s₁.heap = h0 := by rw [← hh, Bd.state]; rfl
  rw [own_ef0 m x]
  show own_Go p e below s ({ frames := 1, cells := 0, slots := 0, locals := 13 } : Room).cells ({ frames := 1, cells := 0, slots := 0, locals := 13 } : Room).slots (fun v h L => v = some (.int (Int32.ofNat lm)) ∧ L = [] ∧ h = h0) s₁ (mkF m 0 #[.val (.ref x)] [])
  have N0 := Fr.nil n0
  refine own_st (g' := (mkF m 1 #[.val (.ref x)] [(.ref x)])) (fun _ q => XS.aloadN X0.here hx rfl (hb hby own_d1_0) rfl rfl (q)) ?_
  obtain ⟨T1, X1, e1, st1⟩ := getF X0 hx hZ hown (host := "") (Or.inl (hw _ (List.mem_of_getElem? (i := 28) rfl))) Via.refl e0 FX (g := (mkF m 1 #[.val (.ref x)] [(.ref x)])) rfl rfl (hb hby own_d1_1)
  refine own_st (g' := (mkF m 4 #[.val (.ref x)] [(.ref t)])) st1 ?_
  refine own_st (g' := (mkF m 5 #[.val (.ref x)] [(.int (Int32.ofNat lm))])) (own_alen X1 hx hZ e1 VX (hb hby own_d1_4)) ?_
  refine own_st (g' := (mkF m 6 #[.val (.ref x)] [(.ref x), (.int (Int32.ofNat lm))])) (fun _ q => XS.aloadN X1.here hx rfl (hb hby own_d1_5) rfl rfl (q)) ?_
  have K2 : own_Bk l ({ frames := 1, cells := 0, slots := 0, locals := 13 } : Room) p e below s #[(.ref x)] (⟨"java/lang/String", "coder", "()B"⟩ : MethodName) 1 h0 #[(.ref x)] 0 0 (fun v h L => v = some (.int (0 : Int32)) ∧ L = [] ∧ h = h0) := backOf (s := s) (R := ({ frames := 1, cells := 0, slots := 0, locals := 13 } : Room)) (W := 1) (Q := (fun v h L => v = some (.int (0 : Int32)) ∧ L = [] ∧ h = h0)) (rm := ({ frames := 0, cells := 0, slots := 0, locals := 0 } : Room)) (own_rm_coder l Z a0 hw [] x t kt lm us z n0  h0 EX FX CX VX lu O hz X00 ) hZ (hw _ (List.mem_of_getElem? (i := 76) rfl)) (hw _ (List.mem_of_getElem? (i := 2) rfl)) (by decide) (by decide)
  obtain ⟨T3, X3, e3, st3⟩ := own_pure (own_cV X1 hx hZ hown (hw _ (List.mem_of_getElem? (i := 72) rfl)) (hw _ (List.mem_of_getElem? (i := 73) rfl)) (notFace_of_selects (args := #[]) (mvT hZ (hw _ (List.mem_of_getElem? (i := 75) rfl)))) (hw _ (List.mem_of_getElem? (i := 75) rfl)) (hw _ (List.mem_of_getElem? (i := 74) rfl)) (by decide) e1 (h := h0) (b := x) EX (argsL := []) (rest := [(.int (Int32.ofNat lm))]) K2 (pc := 6) (Ls := #[.val (.ref x)]) (by rw [hml]; rfl) (lenOf own_pd0 rfl) rfl (Nat.le_of_eq rfl) (hb hby own_d1_6) (by decide) (by decide))
  refine own_st (g' := (mkF m 9 #[.val (.ref x)] [(.int (0 : Int32)), (.int (Int32.ofNat lm))])) st3 ?_
  refine own_st (g' := (mkF m 10 #[.val (.ref x)] [(.int ((Int32.ofNat lm) >>> ((0 : Int32) &&& 31)))])) (fun _ q => XS.ishr X3.here hx rfl (hb hby own_d1_9) rfl (q)) ?_
  rw [own_shr0 (Int32.ofNat lm)]
  exact own_goI X3 hlk hx Bd.returns (hb hby own_d1_10) ⟨rfl, rfl, e3⟩ (by decide) (by decide)
theorem own_ef1 (m : MethodId) (x0 : Int32) (x1 : Int32) : entryFrame m #[(.int x0), (.int x1)] 2 = mkF m 0 #[.val (.int x0), .val (.int x1)] [] := by first | (simp [entryFrame, mkF, argsToLocals, Value.category, maxLocals]; done) | rfl
theorem own_d2_0 : decode jdk_29_method_65_code 0 = .ok (.iload_n 0, 1) := by decide +kernel
theorem own_d2_1 : decode jdk_29_method_65_code 1 = .ok (.iload_n 1, 1) := by decide +kernel
theorem own_d2_2 : decode jdk_29_method_65_code 2 = .ok (.if_icmp .lt 7, 3) := by decide +kernel
theorem own_d2_9 : decode jdk_29_method_65_code 9 = .ok (.iload_n 1, 1) := by decide +kernel
theorem own_d2_10 : decode jdk_29_method_65_code 10 = .ok (.ireturn, 1) := by decide +kernel
theorem own_d2_5 : decode jdk_29_method_65_code 5 = .ok (.iload_n 0, 1) := by decide +kernel
theorem own_d2_6 : decode jdk_29_method_65_code 6 = .ok (.goto 4, 3) := by decide +kernel
set_option maxRecDepth 65536 in
set_option maxHeartbeats 40000000 in
theorem own_rm_maxN (l : Launch) (Z : State) (a0 : Array Value) (hw : ∀ d ∈ tables_1, d.before a0 Z = true) (ws : List Jvm.Cond) (i j : Nat) (h0 : Heap) (hi : i < 2 ^ 30) (hj : j < 2 ^ 30) :
    MetFree l (⟨"java/lang/Math", "max", "(II)I"⟩ : MethodName) (head1 (Jvm.Cond.code (⟨"java/lang/Math", "max", "(II)I"⟩ : MethodName) jdk_29_method_65_code 2 (some .int) :: ws) ({ frames := 0, cells := 0, slots := 0, locals := 0 } : Room)) (fun aa U => aa = #[(.int (Int32.ofNat i)), (.int (Int32.ofNat j))] ∧ Z.Warmed39 U.vm ∧ U.heap = h0) (fun _ _ _ _ _ => True) (fun _ U o_ U' => ∃ v L, o_ = .returned v ∧ (fun v h L => v = some (.int (Int32.ofNat (max i j))) ∧ L = [] ∧ h = h0) v U'.heap L ∧ FrameEnd U o_ U' L ({ frames := 0, cells := 0, slots := 0, locals := 0 } : Room).cells ({ frames := 0, cells := 0, slots := 0, locals := 0 } : Room).slots) := by
  refine MetFree.of_bodySF (Jvm.Free.JP.mathPlain rfl (by decide +kernel)) hisR ?_
  intro p e s m args below meth c s₁ Bd hml0 hP hK
  obtain ⟨rfl, hZ, hh⟩ := hP
  have hx := Bd.exec
  have hby := Bd.bytes
  have hml : c.maxLocals = 2 := hml0
  have hlk : meth.locks = false := BodyLoose.notSynchronized Bd
  have hown : s.vm.findClass "java/lang/Math" = some m.cls := findClass_of_methodNamed Bd.named
  have hnm := (name_of_methodNamed Bd.named Bd.method).1
  have X0 : Stand p l e ({ frames := 0, cells := 0, slots := 0, locals := 0 } : Room) s m #[(.int (Int32.ofNat i)), (.int (Int32.ofNat j))] below meth c s₁ [] 0 0 := Stand.of_body Bd
  have e0 : s₁.heap = h0 := by rw [← hh, Bd.state]; rfl
  rw [own_ef1 m (Int32.ofNat i) (Int32.ofNat j)]
  show own_Go p e below s ({ frames := 0, cells := 0, slots := 0, locals := 0 } : Room).cells ({ frames := 0, cells := 0, slots := 0, locals := 0 } : Room).slots (fun v h L => v = some (.int (Int32.ofNat (max i j))) ∧ L = [] ∧ h = h0) s₁ (mkF m 0 #[.val (.int (Int32.ofNat i)), .val (.int (Int32.ofNat j))] [])
  refine own_st (g' := (mkF m 2 #[.val (.int (Int32.ofNat i)), .val (.int (Int32.ofNat j))] [(.int (Int32.ofNat j)), (.int (Int32.ofNat i))])) (fun _ q => XS.iloadN X0.here hx rfl (hb hby own_d2_0) rfl (XS.iloadN X0.here hx rfl (hb hby own_d2_1) rfl (q))) ?_
  by_cases hc1 : (Int32.ofNat i) < (Int32.ofNat j)
  · -- (Int32.ofNat i) < (Int32.ofNat j)
    refine own_st (g' := (mkF m 10 #[.val (.int (Int32.ofNat i)), .val (.int (Int32.ofNat j))] [(.int (Int32.ofNat j))])) (fun _ q => XS.icmpYes X0.here hx rfl (pc0 := 2) (pc' := 9) rfl (hb hby own_d2_2) rfl (tlt hc1).1 (by decide) (by decide) (XS.iloadN X0.here hx rfl (hb hby own_d2_9) rfl (q))) ?_
    exact own_goI X0 hlk hx Bd.returns (hb hby own_d2_10) ⟨own_max1 (by omega) (by omega) hc1, rfl, e0⟩ (by decide) (by decide)
  · -- not: (Int32.ofNat i) < (Int32.ofNat j)
    refine own_st (g' := (mkF m 10 #[.val (.int (Int32.ofNat i)), .val (.int (Int32.ofNat j))] [(.int (Int32.ofNat i))])) (fun _ q => XS.icmpNo X0.here hx rfl (hb hby own_d2_2) rfl (flt hc1).1 (XS.iloadN X0.here hx rfl (hb hby own_d2_5) rfl (XS.goto X0.here hx rfl (pc0 := 6) (pc' := 10) rfl (hb hby own_d2_6) (by decide) (by decide) (q)))) ?_
    exact own_goI X0 hlk hx Bd.returns (hb hby own_d2_10) ⟨own_max2 (by omega) (by omega) hc1, rfl, e0⟩ (by decide) (by decide)
theorem own_d3_0 : decode jdk_29_method_69_code 0 = .ok (.iload_n 0, 1) := by decide +kernel
theorem own_d3_1 : decode jdk_29_method_69_code 1 = .ok (.iload_n 1, 1) := by decide +kernel
theorem own_d3_2 : decode jdk_29_method_69_code 2 = .ok (.if_icmp .gt 7, 3) := by decide +kernel
theorem own_d3_9 : decode jdk_29_method_69_code 9 = .ok (.iload_n 1, 1) := by decide +kernel
theorem own_d3_10 : decode jdk_29_method_69_code 10 = .ok (.ireturn, 1) := by decide +kernel
theorem own_d3_5 : decode jdk_29_method_69_code 5 = .ok (.iload_n 0, 1) := by decide +kernel
theorem own_d3_6 : decode jdk_29_method_69_code 6 = .ok (.goto 4, 3) := by decide +kernel
set_option maxRecDepth 65536 in
set_option maxHeartbeats 40000000 in
theorem own_rm_minN (l : Launch) (Z : State) (a0 : Array Value) (hw : ∀ d ∈ tables_1, d.before a0 Z = true) (ws : List Jvm.Cond) (i j : Nat) (h0 : Heap) (hi : i < 2 ^ 30) (hj : j < 2 ^ 30) :
    MetFree l (⟨"java/lang/Math", "min", "(II)I"⟩ : MethodName) (head1 (Jvm.Cond.code (⟨"java/lang/Math", "min", "(II)I"⟩ : MethodName) jdk_29_method_69_code 2 (some .int) :: ws) ({ frames := 0, cells := 0, slots := 0, locals := 0 } : Room)) (fun aa U => aa = #[(.int (Int32.ofNat i)), (.int (Int32.ofNat j))] ∧ Z.Warmed39 U.vm ∧ U.heap = h0) (fun _ _ _ _ _ => True) (fun _ U o_ U' => ∃ v L, o_ = .returned v ∧ (fun v h L => v = some (.int (Int32.ofNat (min i j))) ∧ L = [] ∧ h = h0) v U'.heap L ∧ FrameEnd U o_ U' L ({ frames := 0, cells := 0, slots := 0, locals := 0 } : Room).cells ({ frames := 0, cells := 0, slots := 0, locals := 0 } : Room).slots) := by
  refine MetFree.of_bodySF (Jvm.Free.JP.mathPlain rfl (by decide +kernel)) hisR ?_
  intro p e s m args below meth c s₁ Bd hml0 hP hK
  obtain ⟨rfl, hZ, hh⟩ := hP
  have hx := Bd.exec
  have hby := Bd.bytes
  have hml : c.maxLocals = 2 := hml0
  have hlk : meth.locks = false := BodyLoose.notSynchronized Bd
  have hown : s.vm.findClass "java/lang/Math" = some m.cls := findClass_of_methodNamed Bd.named
  have hnm := (name_of_methodNamed Bd.named Bd.method).1
  have X0 : Stand p l e ({ frames := 0, cells := 0, slots := 0, locals := 0 } : Room) s m #[(.int (Int32.ofNat i)), (.int (Int32.ofNat j))] below meth c s₁ [] 0 0 := Stand.of_body Bd
  have e0 : s₁.heap = h0 := by rw [← hh, Bd.state]; rfl
  rw [own_ef1 m (Int32.ofNat i) (Int32.ofNat j)]
  show own_Go p e below s ({ frames := 0, cells := 0, slots := 0, locals := 0 } : Room).cells ({ frames := 0, cells := 0, slots := 0, locals := 0 } : Room).slots (fun v h L => v = some (.int (Int32.ofNat (min i j))) ∧ L = [] ∧ h = h0) s₁ (mkF m 0 #[.val (.int (Int32.ofNat i)), .val (.int (Int32.ofNat j))] [])
  refine own_st (g' := (mkF m 2 #[.val (.int (Int32.ofNat i)), .val (.int (Int32.ofNat j))] [(.int (Int32.ofNat j)), (.int (Int32.ofNat i))])) (fun _ q => XS.iloadN X0.here hx rfl (hb hby own_d3_0) rfl (XS.iloadN X0.here hx rfl (hb hby own_d3_1) rfl (q))) ?_
  by_cases hc1 : (Int32.ofNat j) < (Int32.ofNat i)
  · -- (Int32.ofNat j) < (Int32.ofNat i)
    refine own_st (g' := (mkF m 10 #[.val (.int (Int32.ofNat i)), .val (.int (Int32.ofNat j))] [(.int (Int32.ofNat j))])) (fun _ q => XS.icmpYes X0.here hx rfl (pc0 := 2) (pc' := 9) rfl (hb hby own_d3_2) rfl (tlt hc1).2.2.1 (by decide) (by decide) (XS.iloadN X0.here hx rfl (hb hby own_d3_9) rfl (q))) ?_
    exact own_goI X0 hlk hx Bd.returns (hb hby own_d3_10) ⟨own_min1 (by omega) (by omega) hc1, rfl, e0⟩ (by decide) (by decide)
  · -- not: (Int32.ofNat j) < (Int32.ofNat i)
    refine own_st (g' := (mkF m 10 #[.val (.int (Int32.ofNat i)), .val (.int (Int32.ofNat j))] [(.int (Int32.ofNat i))])) (fun _ q => XS.icmpNo X0.here hx rfl (hb hby own_d3_2) rfl (flt hc1).2.2.1 (XS.iloadN X0.here hx rfl (hb hby own_d3_5) rfl (XS.goto X0.here hx rfl (pc0 := 6) (pc' := 10) rfl (hb hby own_d3_6) (by decide) (by decide) (q)))) ?_
    exact own_goI X0 hlk hx Bd.returns (hb hby own_d3_10) ⟨own_min2 (by omega) (by omega) hc1, rfl, e0⟩ (by decide) (by decide)
theorem own_ef2 (m : MethodId) (x0 : Int32) (x1 : Int32) (x2 : Int32) : entryFrame m #[(.int x0), (.int x1), (.int x2)] 4 = mkF m 0 #[.val (.int x0), .val (.int x1), .val (.int x2), .unset] [] := by first | (simp [entryFrame, mkF, argsToLocals, Value.category, maxLocals]; done) | rfl
theorem own_pn1 : plainName "jdk/internal/util/ArraysSupport" = true := by first | (simp [plainName, overriddenIn]; done) | decide +kernel
theorem own_d4_0 : decode jdk_48_method_27_code 0 = .ok (.iload_n 0, 1) := by decide +kernel
theorem own_d4_1 : decode jdk_48_method_27_code 1 = .ok (.iload_n 1, 1) := by decide +kernel
theorem own_d4_2 : decode jdk_48_method_27_code 2 = .ok (.iload_n 2, 1) := by decide +kernel
theorem own_d4_3 : decode jdk_48_method_27_code 3 = .ok (.invokestatic 194, 3) := by decide +kernel
theorem own_pd1 : parseMethodDescriptor "(II)I" = some ⟨[.int, .int], some .int⟩ := by decide +kernel
theorem own_d4_6 : decode jdk_48_method_27_code 6 = .ok (.iadd, 1) := by decide +kernel
theorem own_d4_7 : decode jdk_48_method_27_code 7 = .ok (.istore_n 3, 1) := by decide +kernel
theorem own_d4_8 : decode jdk_48_method_27_code 8 = .ok (.iconst 0, 1) := by decide +kernel
theorem own_d4_9 : decode jdk_48_method_27_code 9 = .ok (.iload_n 3, 1) := by decide +kernel
theorem own_d4_10 : decode jdk_48_method_27_code 10 = .ok (.if_icmp .ge 11, 3) := by decide +kernel
theorem own_d4_13 : decode jdk_48_method_27_code 13 = .ok (.iload_n 3, 1) := by decide +kernel
theorem own_d4_14 : decode jdk_48_method_27_code 14 = .ok (.ldc 200, 2) := by decide +kernel
theorem own_d4_16 : decode jdk_48_method_27_code 16 = .ok (.if_icmp .gt 5, 3) := by decide +kernel
theorem own_d4_19 : decode jdk_48_method_27_code 19 = .ok (.iload_n 3, 1) := by decide +kernel
theorem own_d4_20 : decode jdk_48_method_27_code 20 = .ok (.ireturn, 1) := by decide +kernel
set_option maxRecDepth 65536 in
set_option maxHeartbeats 40000000 in
theorem own_rm_newLen (l : Launch) (Z : State) (a0 : Array Value) (hw : ∀ d ∈ tables_1, d.before a0 Z = true) (ws : List Jvm.Cond) (la g nq : Nat) (h0 : Heap) (hl : la < 1000000) (hg : g < 1000000) (hq : nq < 1000000) (hp : 0 < nq) :
    MetFree l (⟨"jdk/internal/util/ArraysSupport", "newLength", "(III)I"⟩ : MethodName) (head1 (Jvm.Cond.code (⟨"jdk/internal/util/ArraysSupport", "newLength", "(III)I"⟩ : MethodName) jdk_48_method_27_code 4 (some .int) :: ws) ({ frames := 1, cells := 0, slots := 0, locals := 14 } : Room)) (fun aa U => aa = #[(.int (Int32.ofNat la)), (.int (Int32.ofNat g)), (.int (Int32.ofNat nq))] ∧ Z.Warmed39 U.vm ∧ U.heap = h0) (fun _ _ _ _ _ => True) (fun _ U o_ U' => ∃ v L, o_ = .returned v ∧ (fun v h L => v = some (.int (Int32.ofNat (la + max (g) (nq)))) ∧ L = [] ∧ h = h0) v U'.heap L ∧ FrameEnd U o_ U' L ({ frames := 1, cells := 0, slots := 0, locals := 14 } : Room).cells ({ frames := 1, cells := 0, slots := 0, locals := 14 } : Room).slots) := by
  refine MetFree.of_bodySF (plainFor_of_name own_pn1) hisR ?_
  intro p e s m args below meth c s₁ Bd hml0 hP hK
  obtain ⟨rfl, hZ, hh⟩ := hP
  have hx := Bd.exec
  have hby := Bd.bytes
  have hml : c.maxLocals = 4 := hml0
  have hlk : meth.locks = false := BodyLoose.notSynchronized Bd
  have hown : s.vm.findClass "jdk/internal/util/ArraysSupport" = some m.cls := findClass_of_methodNamed Bd.named
  have hnm := (name_of_methodNamed Bd.named Bd.method).1
  have X0 : Stand p l e ({ frames := 1, cells := 0, slots := 0, locals := 14 } : Room) s m #[(.int (Int32.ofNat la)), (.int (Int32.ofNat g)), (.int (Int32.ofNat nq))] below meth c s₁ [] 0 0 := Stand.of_body Bd
  have e0 : s₁.heap = h0 := by rw [← hh, Bd.state]; rfl
  rw [own_ef2 m (Int32.ofNat la) (Int32.ofNat g) (Int32.ofNat nq)]
  show own_Go p e below s ({ frames := 1, cells := 0, slots := 0, locals := 14 } : Room).cells ({ frames := 1, cells := 0, slots := 0, locals := 14 } : Room).slots (fun v h L => v = some (.int (Int32.ofNat (la + max (g) (nq)))) ∧ L = [] ∧ h = h0) s₁ (mkF m 0 #[.val (.int (Int32.ofNat la)), .val (.int (Int32.ofNat g)), .val (.int (Int32.ofNat nq)), .unset] [])
  refine own_st (g' := (mkF m 3 #[.val (.int (Int32.ofNat la)), .val (.int (Int32.ofNat g)), .val (.int (Int32.ofNat nq)), .unset] [(.int (Int32.ofNat nq)), (.int (Int32.ofNat g)), (.int (Int32.ofNat la))])) (fun _ q => XS.iloadN X0.here hx rfl (hb hby own_d4_0) rfl (XS.iloadN X0.here hx rfl (hb hby own_d4_1) rfl (XS.iloadN X0.here hx rfl (hb hby own_d4_2) rfl (q)))) ?_
  have K1 : own_Bk l ({ frames := 1, cells := 0, slots := 0, locals := 14 } : Room) p e below s #[(.int (Int32.ofNat la)), (.int (Int32.ofNat g)), (.int (Int32.ofNat nq))] (⟨"java/lang/Math", "max", "(II)I"⟩ : MethodName) 1 h0 #[(.int (Int32.ofNat g)), (.int (Int32.ofNat nq))] 0 0 (fun v h L => v = some (.int (Int32.ofNat (max (g) (nq)))) ∧ L = [] ∧ h = h0) := backOf (s := s) (R := ({ frames := 1, cells := 0, slots := 0, locals := 14 } : Room)) (W := 1) (Q := (fun v h L => v = some (.int (Int32.ofNat (max (g) (nq)))) ∧ L = [] ∧ h = h0)) (rm := ({ frames := 0, cells := 0, slots := 0, locals := 0 } : Room)) (own_rm_maxN l Z a0 hw [] (g) (nq)  h0 (by omega) (by omega) ) hZ (hw _ (List.mem_of_getElem? (i := 117) rfl)) (hw _ (List.mem_of_getElem? (i := 116) rfl)) (by decide) (by decide)
  obtain ⟨T2, X2, e2, st2⟩ := own_pure (own_cS X0 hx hZ hown (hw _ (List.mem_of_getElem? (i := 114) rfl)) (hw _ (List.mem_of_getElem? (i := 115) rfl)) (hw _ (List.mem_of_getElem? (i := 116) rfl)) (hw _ (List.mem_of_getElem? (i := 117) rfl)) (by decide) e0 (h := h0) (argsL := [(.int (Int32.ofNat g)), (.int (Int32.ofNat nq))]) (rest := [(.int (Int32.ofNat la))]) K1 (pc := 3) (Ls := #[.val (.int (Int32.ofNat la)), .val (.int (Int32.ofNat g)), .val (.int (Int32.ofNat nq)), .unset]) (by rw [hml]; rfl) (lenOf own_pd1 rfl) rfl (Nat.le_of_eq rfl) (hb hby own_d4_3) (by decide) (by decide))
  refine own_st (g' := (mkF m 6 #[.val (.int (Int32.ofNat la)), .val (.int (Int32.ofNat g)), .val (.int (Int32.ofNat nq)), .unset] [(.int (Int32.ofNat (max (g) (nq)))), (.int (Int32.ofNat la))])) st2 ?_
  refine own_st (g' := (mkF m 7 #[.val (.int (Int32.ofNat la)), .val (.int (Int32.ofNat g)), .val (.int (Int32.ofNat nq)), .unset] [(.int ((Int32.ofNat la) + (Int32.ofNat (max (g) (nq)))))])) (fun _ q => XS.iadd X2.here hx rfl (hb hby own_d4_6) rfl (q)) ?_
  rw [show ((Int32.ofNat la) + (Int32.ofNat (max (g) (nq)))) = (Int32.ofNat (la + (max (g) (nq)))) from own_addN _ _]
  refine own_st (g' := (mkF m 14 #[.val (.int (Int32.ofNat la)), .val (.int (Int32.ofNat g)), .val (.int (Int32.ofNat nq)), .val (.int (Int32.ofNat (la + (max (g) (nq)))))] [(.int (Int32.ofNat (la + (max (g) (nq)))))])) (fun _ q => XS.istoreN X2.here hx rfl (hb hby own_d4_7) rfl (l' := #[.val (.int (Int32.ofNat la)), .val (.int (Int32.ofNat g)), .val (.int (Int32.ofNat nq)), .val (.int (Int32.ofNat (la + (max (g) (nq)))))]) rfl (XS.iconst X2.here hx rfl (hb hby own_d4_8) (XS.iloadN X2.here hx rfl (hb hby own_d4_9) rfl (XS.icmpNo X2.here hx rfl (hb hby own_d4_10) rfl (tlt (own_ltN (i := 0) (j := (la + (max (g) (nq)))) (by omega) (by omega) : (0 : Int32) < (Int32.ofNat (la + (max (g) (nq)))))).2.1 (XS.iloadN X2.here hx rfl (hb hby own_d4_13) rfl (q)))))) ?_
  refine own_st (g' := (mkF m 16 #[.val (.int (Int32.ofNat la)), .val (.int (Int32.ofNat g)), .val (.int (Int32.ofNat nq)), .val (.int (Int32.ofNat (la + (max (g) (nq)))))] [(.int (2147483639 : Int32)), (.int (Int32.ofNat (la + (max (g) (nq)))))])) (fun _ q => X2.ldcInt hx hown (mvT hZ (hw _ (List.mem_of_getElem? (i := 118) rfl))) (g := (mkF m 14 #[.val (.int (Int32.ofNat la)), .val (.int (Int32.ofNat g)), .val (.int (Int32.ofNat nq)), .val (.int (Int32.ofNat (la + (max (g) (nq)))))] [(.int (Int32.ofNat (la + (max (g) (nq)))))])) rfl (hb hby own_d4_14) _ q) ?_
  refine own_st (g' := (mkF m 20 #[.val (.int (Int32.ofNat la)), .val (.int (Int32.ofNat g)), .val (.int (Int32.ofNat nq)), .val (.int (Int32.ofNat (la + (max (g) (nq)))))] [(.int (Int32.ofNat (la + (max (g) (nq)))))])) (fun _ q => XS.icmpNo X2.here hx rfl (hb hby own_d4_16) rfl (flt (own_nltN (i := 2147483639) (j := (la + (max (g) (nq)))) (by omega) (by omega) : ¬ (2147483639 : Int32) < (Int32.ofNat (la + (max (g) (nq)))))).2.2.1 (XS.iloadN X2.here hx rfl (hb hby own_d4_19) rfl (q))) ?_
  exact own_goI X2 hlk hx Bd.returns (hb hby own_d4_20) ⟨rfl, rfl, e2⟩ (by decide) (by decide)
theorem own_ef3 (m : MethodId) (x0 : Addr) (x1 : Int32) : entryFrame m #[(.ref x0), (.int x1)] 6 = mkF m 0 #[.val (.ref x0), .val (.int x1), .unset, .unset, .unset, .unset] [] := by first | (simp [entryFrame, mkF, argsToLocals, Value.category, maxLocals]; done) | rfl
theorem own_pn2 : plainName "java/lang/AbstractStringBuilder" = true := by first | (simp [plainName, overriddenIn]; done) | decide +kernel
theorem own_d5_0 : decode jdk_68_method_10_code 0 = .ok (.aload_n 0, 1) := by decide +kernel
theorem own_d5_1 : decode jdk_68_method_10_code 1 = .ok (.getfield 15, 3) := by decide +kernel
theorem own_d5_4 : decode jdk_68_method_10_code 4 = .ok (.arraylength, 1) := by decide +kernel
theorem own_d5_5 : decode jdk_68_method_10_code 5 = .ok (.istore_n 2, 1) := by decide +kernel
theorem own_d5_6 : decode jdk_68_method_10_code 6 = .ok (.iload_n 1, 1) := by decide +kernel
theorem own_d5_7 : decode jdk_68_method_10_code 7 = .ok (.aload_n 0, 1) := by decide +kernel
theorem own_d5_8 : decode jdk_68_method_10_code 8 = .ok (.getfield 22, 3) := by decide +kernel
theorem own_d5_11 : decode jdk_68_method_10_code 11 = .ok (.ishl, 1) := by decide +kernel
theorem own_d5_12 : decode jdk_68_method_10_code 12 = .ok (.istore_n 3, 1) := by decide +kernel
theorem own_d5_13 : decode jdk_68_method_10_code 13 = .ok (.iload_n 3, 1) := by decide +kernel
theorem own_d5_14 : decode jdk_68_method_10_code 14 = .ok (.iload_n 2, 1) := by decide +kernel
theorem own_d5_15 : decode jdk_68_method_10_code 15 = .ok (.isub, 1) := by decide +kernel
theorem own_d5_16 : decode jdk_68_method_10_code 16 = .ok (.istore 4, 2) := by decide +kernel
theorem own_d5_18 : decode jdk_68_method_10_code 18 = .ok (.iload_n 2, 1) := by decide +kernel
theorem own_d5_19 : decode jdk_68_method_10_code 19 = .ok (.iload 4, 2) := by decide +kernel
theorem own_d5_21 : decode jdk_68_method_10_code 21 = .ok (.iload_n 2, 1) := by decide +kernel
theorem own_d5_22 : decode jdk_68_method_10_code 22 = .ok (.iconst 2, 1) := by decide +kernel
theorem own_d5_23 : decode jdk_68_method_10_code 23 = .ok (.aload_n 0, 1) := by decide +kernel
theorem own_d5_24 : decode jdk_68_method_10_code 24 = .ok (.getfield 22, 3) := by decide +kernel
theorem own_d5_27 : decode jdk_68_method_10_code 27 = .ok (.ishl, 1) := by decide +kernel
theorem own_d5_28 : decode jdk_68_method_10_code 28 = .ok (.iadd, 1) := by decide +kernel
theorem own_d5_29 : decode jdk_68_method_10_code 29 = .ok (.invokestatic 114, 3) := by decide +kernel
theorem own_pd2 : parseMethodDescriptor "(III)I" = some ⟨[.int, .int, .int], some .int⟩ := by decide +kernel
theorem own_d5_32 : decode jdk_68_method_10_code 32 = .ok (.istore 5, 2) := by decide +kernel
theorem own_d5_34 : decode jdk_68_method_10_code 34 = .ok (.iload 5, 2) := by decide +kernel
theorem own_d5_36 : decode jdk_68_method_10_code 36 = .ok (.ldc 39, 2) := by decide +kernel
theorem own_d5_38 : decode jdk_68_method_10_code 38 = .ok (.if_icmp .ne 13, 3) := by decide +kernel
theorem own_d5_51 : decode jdk_68_method_10_code 51 = .ok (.iload 5, 2) := by decide +kernel
theorem own_d5_53 : decode jdk_68_method_10_code 53 = .ok (.aload_n 0, 1) := by decide +kernel
theorem own_d5_54 : decode jdk_68_method_10_code 54 = .ok (.getfield 22, 3) := by decide +kernel
theorem own_d5_57 : decode jdk_68_method_10_code 57 = .ok (.ishr, 1) := by decide +kernel
theorem own_d5_58 : decode jdk_68_method_10_code 58 = .ok (.ireturn, 1) := by decide +kernel
set_option maxRecDepth 65536 in
set_option maxHeartbeats 40000000 in
theorem own_rm_newCap (l : Launch) (Z : State) (a0 : Array Value) (hw : ∀ d ∈ tables_1, d.before a0 Z = true) (ws : List Jvm.Cond) (a b : Addr) (kb : ClassId) (n cap : Nat) (vs : List Value) (nq : Nat) (h0 : Heap) (EA : Exa Z h0 a "java/lang/StringBuilder") (FA : Fld Z h0 a "java/lang/AbstractStringBuilder" "value" "[B" (.ref b)) (CA : Fld Z h0 a "java/lang/AbstractStringBuilder" "coder" "B" (.int (0 : Int32))) (NA : Fld Z h0 a "java/lang/AbstractStringBuilder" "count" "I" (.int (Int32.ofNat n))) (VA : Arv Z h0 b kb .byte (Int32.ofNat cap) vs (.int (0 : Int32))) (la : vs.length = cap) (hn : n ≤ cap) (hK : cap ≤ 100000) (hq : cap < nq) (hq2 : nq ≤ 100000) :
    MetFree l (⟨"java/lang/AbstractStringBuilder", "newCapacity", "(I)I"⟩ : MethodName) (head1 (Jvm.Cond.code (⟨"java/lang/AbstractStringBuilder", "newCapacity", "(I)I"⟩ : MethodName) jdk_68_method_10_code 6 (some .int) :: ws) ({ frames := 2, cells := 0, slots := 0, locals := 29 } : Room)) (fun aa U => aa = #[(.ref a), (.int (Int32.ofNat nq))] ∧ Z.Warmed39 U.vm ∧ U.heap = h0) (fun _ _ _ _ _ => True) (fun _ U o_ U' => ∃ v L, o_ = .returned v ∧ (fun v h L => v = some (.int (Int32.ofNat (cap + max (nq - cap) (cap + 2)))) ∧ L = [] ∧ h = h0) v U'.heap L ∧ FrameEnd U o_ U' L ({ frames := 2, cells := 0, slots := 0, locals := 29 } : Room).cells ({ frames := 2, cells := 0, slots := 0, locals := 29 } : Room).slots) := by
  refine MetFree.of_bodySF (plainFor_of_name own_pn2) hisR ?_
  intro p e s m args below meth c s₁ Bd hml0 hP hK
  obtain ⟨rfl, hZ, hh⟩ := hP
  have hx := Bd.exec
  have hby := Bd.bytes
  have hml : c.maxLocals = 6 := hml0
  have hlk : meth.locks = false := BodyLoose.notSynchronized Bd
  have hown : s.vm.findClass "java/lang/AbstractStringBuilder" = some m.cls := findClass_of_methodNamed Bd.named
  have hnm := (name_of_methodNamed Bd.named Bd.method).1
  have X0 : Stand p l e ({ frames := 2, cells := 0, slots := 0, locals := 29 } : Room) s m #[(.ref a), (.int (Int32.ofNat nq))] below meth c s₁ [] 0 0 := Stand.of_body Bd
  have e0 : s₁.heap = h0 := by rw [← hh, Bd.state]; rfl
  rw [own_ef3 m a (Int32.ofNat nq)]
  show own_Go p e below s ({ frames := 2, cells := 0, slots := 0, locals := 29 } : Room).cells ({ frames := 2, cells := 0, slots := 0, locals := 29 } : Room).slots (fun v h L => v = some (.int (Int32.ofNat (cap + max (nq - cap) (cap + 2)))) ∧ L = [] ∧ h = h0) s₁ (mkF m 0 #[.val (.ref a), .val (.int (Int32.ofNat nq)), .unset, .unset, .unset, .unset] [])
  refine own_st (g' := (mkF m 1 #[.val (.ref a), .val (.int (Int32.ofNat nq)), .unset, .unset, .unset, .unset] [(.ref a)])) (fun _ q => XS.aloadN X0.here hx rfl (hb hby own_d5_0) rfl rfl (q)) ?_
  obtain ⟨T1, X1, e1, st1⟩ := getF X0 hx hZ hown (host := "") (Or.inl (hw _ (List.mem_of_getElem? (i := 50) rfl))) Via.refl e0 FA (g := (mkF m 1 #[.val (.ref a), .val (.int (Int32.ofNat nq)), .unset, .unset, .unset, .unset] [(.ref a)])) rfl rfl (hb hby own_d5_1)
  refine own_st (g' := (mkF m 4 #[.val (.ref a), .val (.int (Int32.ofNat nq)), .unset, .unset, .unset, .unset] [(.ref b)])) st1 ?_
  refine own_st (g' := (mkF m 5 #[.val (.ref a), .val (.int (Int32.ofNat nq)), .unset, .unset, .unset, .unset] [(.int (Int32.ofNat cap))])) (own_alen X1 hx hZ e1 VA (hb hby own_d5_4)) ?_
  refine own_st (g' := (mkF m 8 #[.val (.ref a), .val (.int (Int32.ofNat nq)), .val (.int (Int32.ofNat cap)), .unset, .unset, .unset] [(.ref a), (.int (Int32.ofNat nq))])) (fun _ q => XS.istoreN X1.here hx rfl (hb hby own_d5_5) rfl (l' := #[.val (.ref a), .val (.int (Int32.ofNat nq)), .val (.int (Int32.ofNat cap)), .unset, .unset, .unset]) rfl (XS.iloadN X1.here hx rfl (hb hby own_d5_6) rfl (XS.aloadN X1.here hx rfl (hb hby own_d5_7) rfl rfl (q)))) ?_
  obtain ⟨T2, X2, e2, st2⟩ := getF X1 hx hZ hown (host := "") (Or.inl (hw _ (List.mem_of_getElem? (i := 52) rfl))) Via.refl e1 CA (g := (mkF m 8 #[.val (.ref a), .val (.int (Int32.ofNat nq)), .val (.int (Int32.ofNat cap)), .unset, .unset, .unset] [(.ref a), (.int (Int32.ofNat nq))])) rfl rfl (hb hby own_d5_8)
  refine own_st (g' := (mkF m 11 #[.val (.ref a), .val (.int (Int32.ofNat nq)), .val (.int (Int32.ofNat cap)), .unset, .unset, .unset] [(.int (0 : Int32)), (.int (Int32.ofNat nq))])) st2 ?_
  refine own_st (g' := (mkF m 12 #[.val (.ref a), .val (.int (Int32.ofNat nq)), .val (.int (Int32.ofNat cap)), .unset, .unset, .unset] [(.int ((Int32.ofNat nq) <<< ((0 : Int32) &&& 31)))])) (fun _ q => XS.ishl X2.here hx rfl (hb hby own_d5_11) rfl (q)) ?_
  rw [own_shl0 (Int32.ofNat nq)]
  refine own_st (g' := (mkF m 16 #[.val (.ref a), .val (.int (Int32.ofNat nq)), .val (.int (Int32.ofNat cap)), .val (.int (Int32.ofNat nq)), .unset, .unset] [(.int ((Int32.ofNat nq) - (Int32.ofNat cap)))])) (fun _ q => XS.istoreN X2.here hx rfl (hb hby own_d5_12) rfl (l' := #[.val (.ref a), .val (.int (Int32.ofNat nq)), .val (.int (Int32.ofNat cap)), .val (.int (Int32.ofNat nq)), .unset, .unset]) rfl (XS.iloadN X2.here hx rfl (hb hby own_d5_13) rfl (XS.iloadN X2.here hx rfl (hb hby own_d5_14) rfl (XS.isub X2.here hx rfl (hb hby own_d5_15) rfl (q))))) ?_
  rw [show ((Int32.ofNat nq) - (Int32.ofNat cap)) = (Int32.ofNat (nq - cap)) from own_subN (a := nq) (b := cap) (by omega)]
  refine own_st (g' := (mkF m 24 #[.val (.ref a), .val (.int (Int32.ofNat nq)), .val (.int (Int32.ofNat cap)), .val (.int (Int32.ofNat nq)), .val (.int (Int32.ofNat (nq - cap))), .unset] [(.ref a), (.int (2 : Int32)), (.int (Int32.ofNat cap)), (.int (Int32.ofNat (nq - cap))), (.int (Int32.ofNat cap))])) (fun _ q => XS.istore X2.here hx rfl (hb hby own_d5_16) rfl (l' := #[.val (.ref a), .val (.int (Int32.ofNat nq)), .val (.int (Int32.ofNat cap)), .val (.int (Int32.ofNat nq)), .val (.int (Int32.ofNat (nq - cap))), .unset]) rfl (XS.iloadN X2.here hx rfl (hb hby own_d5_18) rfl (XS.iload X2.here hx rfl (hb hby own_d5_19) rfl (XS.iloadN X2.here hx rfl (hb hby own_d5_21) rfl (XS.iconst X2.here hx rfl (hb hby own_d5_22) (XS.aloadN X2.here hx rfl (hb hby own_d5_23) rfl rfl (q))))))) ?_
  obtain ⟨T3, X3, e3, st3⟩ := getF X2 hx hZ hown (host := "") (Or.inl (hw _ (List.mem_of_getElem? (i := 52) rfl))) Via.refl e2 CA (g := (mkF m 24 #[.val (.ref a), .val (.int (Int32.ofNat nq)), .val (.int (Int32.ofNat cap)), .val (.int (Int32.ofNat nq)), .val (.int (Int32.ofNat (nq - cap))), .unset] [(.ref a), (.int (2 : Int32)), (.int (Int32.ofNat cap)), (.int (Int32.ofNat (nq - cap))), (.int (Int32.ofNat cap))])) rfl rfl (hb hby own_d5_24)
  refine own_st (g' := (mkF m 27 #[.val (.ref a), .val (.int (Int32.ofNat nq)), .val (.int (Int32.ofNat cap)), .val (.int (Int32.ofNat nq)), .val (.int (Int32.ofNat (nq - cap))), .unset] [(.int (0 : Int32)), (.int (2 : Int32)), (.int (Int32.ofNat cap)), (.int (Int32.ofNat (nq - cap))), (.int (Int32.ofNat cap))])) st3 ?_
  refine own_st (g' := (mkF m 29 #[.val (.ref a), .val (.int (Int32.ofNat nq)), .val (.int (Int32.ofNat cap)), .val (.int (Int32.ofNat nq)), .val (.int (Int32.ofNat (nq - cap))), .unset] [(.int ((Int32.ofNat cap) + (2 : Int32))), (.int (Int32.ofNat (nq - cap))), (.int (Int32.ofNat cap))])) (fun _ q => XS.ishl X3.here hx rfl (hb hby own_d5_27) rfl (XS.iadd X3.here hx rfl (hb hby own_d5_28) rfl (q))) ?_
  rw [show ((Int32.ofNat cap) + (2 : Int32)) = (Int32.ofNat (cap + 2)) from own_addN _ _]
  have K4 : own_Bk l ({ frames := 2, cells := 0, slots := 0, locals := 29 } : Room) p e below s #[(.ref a), (.int (Int32.ofNat nq))] (⟨"jdk/internal/util/ArraysSupport", "newLength", "(III)I"⟩ : MethodName) 0 h0 #[(.int (Int32.ofNat cap)), (.int (Int32.ofNat (nq - cap))), (.int (Int32.ofNat (cap + 2)))] 0 0 (fun v h L => v = some (.int (Int32.ofNat (cap + max ((nq - cap)) ((cap + 2))))) ∧ L = [] ∧ h = h0) := backOf (s := s) (R := ({ frames := 2, cells := 0, slots := 0, locals := 29 } : Room)) (W := 0) (Q := (fun v h L => v = some (.int (Int32.ofNat (cap + max ((nq - cap)) ((cap + 2))))) ∧ L = [] ∧ h = h0)) (rm := ({ frames := 1, cells := 0, slots := 0, locals := 14 } : Room)) (own_rm_newLen l Z a0 hw [] (cap) ((nq - cap)) ((cap + 2))  h0 (by omega) (by omega) (by omega) (by omega) ) hZ (hw _ (List.mem_of_getElem? (i := 113) rfl)) (hw _ (List.mem_of_getElem? (i := 112) rfl)) (by decide) (by decide)
  obtain ⟨T5, X5, e5, st5⟩ := own_pure (own_cS X3 hx hZ hown (hw _ (List.mem_of_getElem? (i := 110) rfl)) (hw _ (List.mem_of_getElem? (i := 111) rfl)) (hw _ (List.mem_of_getElem? (i := 112) rfl)) (hw _ (List.mem_of_getElem? (i := 113) rfl)) (by decide) e3 (h := h0) (argsL := [(.int (Int32.ofNat cap)), (.int (Int32.ofNat (nq - cap))), (.int (Int32.ofNat (cap + 2)))]) (rest := []) K4 (pc := 29) (Ls := #[.val (.ref a), .val (.int (Int32.ofNat nq)), .val (.int (Int32.ofNat cap)), .val (.int (Int32.ofNat nq)), .val (.int (Int32.ofNat (nq - cap))), .unset]) (by rw [hml]; rfl) (lenOf own_pd2 rfl) rfl (Nat.le_of_eq rfl) (hb hby own_d5_29) (by decide) (by decide))
  refine own_st (g' := (mkF m 32 #[.val (.ref a), .val (.int (Int32.ofNat nq)), .val (.int (Int32.ofNat cap)), .val (.int (Int32.ofNat nq)), .val (.int (Int32.ofNat (nq - cap))), .unset] [(.int (Int32.ofNat (cap + max ((nq - cap)) ((cap + 2)))))])) st5 ?_
  refine own_st (g' := (mkF m 36 #[.val (.ref a), .val (.int (Int32.ofNat nq)), .val (.int (Int32.ofNat cap)), .val (.int (Int32.ofNat nq)), .val (.int (Int32.ofNat (nq - cap))), .val (.int (Int32.ofNat (cap + max ((nq - cap)) ((cap + 2)))))] [(.int (Int32.ofNat (cap + max ((nq - cap)) ((cap + 2)))))])) (fun _ q => XS.istore X5.here hx rfl (hb hby own_d5_32) rfl (l' := #[.val (.ref a), .val (.int (Int32.ofNat nq)), .val (.int (Int32.ofNat cap)), .val (.int (Int32.ofNat nq)), .val (.int (Int32.ofNat (nq - cap))), .val (.int (Int32.ofNat (cap + max ((nq - cap)) ((cap + 2)))))]) rfl (XS.iload X5.here hx rfl (hb hby own_d5_34) rfl (q))) ?_
  refine own_st (g' := (mkF m 38 #[.val (.ref a), .val (.int (Int32.ofNat nq)), .val (.int (Int32.ofNat cap)), .val (.int (Int32.ofNat nq)), .val (.int (Int32.ofNat (nq - cap))), .val (.int (Int32.ofNat (cap + max ((nq - cap)) ((cap + 2)))))] [(.int (2147483647 : Int32)), (.int (Int32.ofNat (cap + max ((nq - cap)) ((cap + 2)))))])) (fun _ q => X5.ldcInt hx hown (mvT hZ (hw _ (List.mem_of_getElem? (i := 119) rfl))) (g := (mkF m 36 #[.val (.ref a), .val (.int (Int32.ofNat nq)), .val (.int (Int32.ofNat cap)), .val (.int (Int32.ofNat nq)), .val (.int (Int32.ofNat (nq - cap))), .val (.int (Int32.ofNat (cap + max ((nq - cap)) ((cap + 2)))))] [(.int (Int32.ofNat (cap + max ((nq - cap)) ((cap + 2)))))])) rfl (hb hby own_d5_36) _ q) ?_
  refine own_st (g' := (mkF m 54 #[.val (.ref a), .val (.int (Int32.ofNat nq)), .val (.int (Int32.ofNat cap)), .val (.int (Int32.ofNat nq)), .val (.int (Int32.ofNat (nq - cap))), .val (.int (Int32.ofNat (cap + max ((nq - cap)) ((cap + 2)))))] [(.ref a), (.int (Int32.ofNat (cap + max ((nq - cap)) ((cap + 2)))))])) (fun _ q => XS.icmpYes X5.here hx rfl (pc0 := 38) (pc' := 51) rfl (hb hby own_d5_38) rfl (feq (own_neN (i := (cap + max ((nq - cap)) ((cap + 2)))) (j := 2147483647) (by omega) (by omega) (by omega) : ¬ (Int32.ofNat (cap + max ((nq - cap)) ((cap + 2)))) = (2147483647 : Int32))).2 (by decide) (by decide) (XS.iload X5.here hx rfl (hb hby own_d5_51) rfl (XS.aloadN X5.here hx rfl (hb hby own_d5_53) rfl rfl (q)))) ?_
  obtain ⟨T7, X7, e7, st7⟩ := getF X5 hx hZ hown (host := "") (Or.inl (hw _ (List.mem_of_getElem? (i := 52) rfl))) Via.refl e5 CA (g := (mkF m 54 #[.val (.ref a), .val (.int (Int32.ofNat nq)), .val (.int (Int32.ofNat cap)), .val (.int (Int32.ofNat nq)), .val (.int (Int32.ofNat (nq - cap))), .val (.int (Int32.ofNat (cap + max ((nq - cap)) ((cap + 2)))))] [(.ref a), (.int (Int32.ofNat (cap + max ((nq - cap)) ((cap + 2)))))])) rfl rfl (hb hby own_d5_54)
  refine own_st (g' := (mkF m 57 #[.val (.ref a), .val (.int (Int32.ofNat nq)), .val (.int (Int32.ofNat cap)), .val (.int (Int32.ofNat nq)), .val (.int (Int32.ofNat (nq - cap))), .val (.int (Int32.ofNat (cap + max ((nq - cap)) ((cap + 2)))))] [(.int (0 : Int32)), (.int (Int32.ofNat (cap + max ((nq - cap)) ((cap + 2)))))])) st7 ?_
  refine own_st (g' := (mkF m 58 #[.val (.ref a), .val (.int (Int32.ofNat nq)), .val (.int (Int32.ofNat cap)), .val (.int (Int32.ofNat nq)), .val (.int (Int32.ofNat (nq - cap))), .val (.int (Int32.ofNat (cap + max ((nq - cap)) ((cap + 2)))))] [(.int ((Int32.ofNat (cap + max ((nq - cap)) ((cap + 2)))) >>> ((0 : Int32) &&& 31)))])) (fun _ q => XS.ishr X7.here hx rfl (hb hby own_d5_57) rfl (q)) ?_
  rw [own_shr0 (Int32.ofNat (cap + max ((nq - cap)) ((cap + 2))))]
  exact own_goI X7 hlk hx Bd.returns (hb hby own_d5_58) ⟨rfl, rfl, e7⟩ (by decide) (by decide)
theorem own_ef4 (m : MethodId) (x0 : Addr) (x1 : Int32) : entryFrame m #[(.ref x0), (.int x1)] 3 = mkF m 0 #[.val (.ref x0), .val (.int x1), .unset] [] := by first | (simp [entryFrame, mkF, argsToLocals, Value.category, maxLocals]; done) | rfl
theorem own_pn3 : plainName "java/util/Arrays" = true := by first | (simp [plainName, overriddenIn]; done) | decide +kernel
abbrev own_Q_copyOf (Z : State) (b : Addr) (kb : ClassId) (cap N n0 : Nat) (vs : List Value) (h0 : Heap) : Option Value → Heap → List Loc → Prop := fun v h L => Fr n0 L ∧ Keep h0 h [] ∧ ∃ b' kb' us, v = some (.ref b') ∧ h0.size ≤ b' ∧ Arv Z h b' kb' .byte (Int32.ofNat N) us (.int (0 : Int32)) ∧ us.length = N ∧ us.take cap = vs
theorem own_d6_0 : decode jdk_65_method_121_code 0 = .ok (.iload_n 1, 1) := by decide +kernel
theorem own_d6_1 : decode jdk_65_method_121_code 1 = .ok (.aload_n 0, 1) := by decide +kernel
theorem own_d6_2 : decode jdk_65_method_121_code 2 = .ok (.arraylength, 1) := by decide +kernel
theorem own_d6_3 : decode jdk_65_method_121_code 3 = .ok (.if_icmp .ne 11, 3) := by decide +kernel
theorem own_d6_14 : decode jdk_65_method_121_code 14 = .ok (.iload_n 1, 1) := by decide +kernel
theorem own_d6_15 : decode jdk_65_method_121_code 15 = .ok (.newarray .byte, 2) := by decide +kernel
theorem own_d6_17 : decode jdk_65_method_121_code 17 = .ok (.astore_n 2, 1) := by decide +kernel
theorem own_d6_18 : decode jdk_65_method_121_code 18 = .ok (.aload_n 0, 1) := by decide +kernel
theorem own_d6_19 : decode jdk_65_method_121_code 19 = .ok (.iconst 0, 1) := by decide +kernel
theorem own_d6_20 : decode jdk_65_method_121_code 20 = .ok (.aload_n 2, 1) := by decide +kernel
theorem own_d6_21 : decode jdk_65_method_121_code 21 = .ok (.iconst 0, 1) := by decide +kernel
theorem own_d6_22 : decode jdk_65_method_121_code 22 = .ok (.aload_n 0, 1) := by decide +kernel
theorem own_d6_23 : decode jdk_65_method_121_code 23 = .ok (.arraylength, 1) := by decide +kernel
theorem own_d6_24 : decode jdk_65_method_121_code 24 = .ok (.iload_n 1, 1) := by decide +kernel
theorem own_d6_25 : decode jdk_65_method_121_code 25 = .ok (.invokestatic 304, 3) := by decide +kernel
theorem own_d6_28 : decode jdk_65_method_121_code 28 = .ok (.invokestatic 150, 3) := by decide +kernel
theorem own_d6_31 : decode jdk_65_method_121_code 31 = .ok (.aload_n 2, 1) := by decide +kernel
theorem own_d6_32 : decode jdk_65_method_121_code 32 = .ok (.areturn, 1) := by decide +kernel
set_option maxRecDepth 65536 in
set_option maxHeartbeats 40000000 in
theorem own_rm_copyOf (l : Launch) (Z : State) (a0 : Array Value) (hw : ∀ d ∈ tables_1, d.before a0 Z = true) (ws : List Jvm.Cond) (b : Addr) (kb : ClassId) (cap N n0 : Nat) (vs : List Value) (h0 : Heap) (Z0 : n0 ≤ h0.size) (VA : Arv Z h0 b kb .byte (Int32.ofNat cap) vs (.int (0 : Int32))) (la : vs.length = cap) (hc : cap < N) (hN : N ≤ 128) :
    MetFree l (⟨"java/util/Arrays", "copyOf", "([BI)[B"⟩ : MethodName) (head1 (Jvm.Cond.code (⟨"java/util/Arrays", "copyOf", "([BI)[B"⟩ : MethodName) jdk_65_method_121_code 3 (some (.array .byte)) :: ws) ({ frames := 1, cells := 1, slots := 128, locals := 21 } : Room)) (fun aa U => aa = #[(.ref b), (.int (Int32.ofNat N))] ∧ Z.Warmed39 U.vm ∧ U.heap = h0) (fun _ _ _ _ _ => True) (fun _ U o_ U' => ∃ v L, o_ = .returned v ∧ (own_Q_copyOf Z b kb cap N n0 vs h0) v U'.heap L ∧ FrameEnd U o_ U' L ({ frames := 1, cells := 1, slots := 128, locals := 21 } : Room).cells ({ frames := 1, cells := 1, slots := 128, locals := 21 } : Room).slots) := by
  refine MetFree.of_bodySF (plainFor_of_name own_pn3) hisR ?_
  intro p e s m args below meth c s₁ Bd hml0 hP hK
  obtain ⟨rfl, hZ, hh⟩ := hP
  have hx := Bd.exec
  have hby := Bd.bytes
  have hml : c.maxLocals = 3 := hml0
  have hlk : meth.locks = false := BodyLoose.notSynchronized Bd
  have hown : s.vm.findClass "java/util/Arrays" = some m.cls := findClass_of_methodNamed Bd.named
  have hnm := (name_of_methodNamed Bd.named Bd.method).1
  have X0 : Stand p l e ({ frames := 1, cells := 1, slots := 128, locals := 21 } : Room) s m #[(.ref b), (.int (Int32.ofNat N))] below meth c s₁ [] 0 0 := Stand.of_body Bd
  have e0 : s₁.heap = h0 := by rw [← hh, Bd.state]; rfl
  rw [own_ef4 m b (Int32.ofNat N)]
  show own_Go p e below s ({ frames := 1, cells := 1, slots := 128, locals := 21 } : Room).cells ({ frames := 1, cells := 1, slots := 128, locals := 21 } : Room).slots (own_Q_copyOf Z b kb cap N n0 vs h0) s₁ (mkF m 0 #[.val (.ref b), .val (.int (Int32.ofNat N)), .unset] [])
  have N0 := Fr.nil n0
  refine own_st (g' := (mkF m 2 #[.val (.ref b), .val (.int (Int32.ofNat N)), .unset] [(.ref b), (.int (Int32.ofNat N))])) (fun _ q => XS.iloadN X0.here hx rfl (hb hby own_d6_0) rfl (XS.aloadN X0.here hx rfl (hb hby own_d6_1) rfl rfl (q))) ?_
  refine own_st (g' := (mkF m 3 #[.val (.ref b), .val (.int (Int32.ofNat N)), .unset] [(.int (Int32.ofNat cap)), (.int (Int32.ofNat N))])) (own_alen X0 hx hZ e0 VA (hb hby own_d6_2)) ?_
  refine own_st (g' := (mkF m 15 #[.val (.ref b), .val (.int (Int32.ofNat N)), .unset] [(.int (Int32.ofNat N))])) (fun _ q => XS.icmpYes X0.here hx rfl (pc0 := 3) (pc' := 14) rfl (hb hby own_d6_3) rfl (feq (own_neN (i := N) (j := cap) (by omega) (by omega) (by omega) : ¬ (Int32.ofNat N) = (Int32.ofNat cap))).2 (by decide) (by decide) (XS.iloadN X0.here hx rfl (hb hby own_d6_14) rfl (q))) ?_
  obtain ⟨T1, h1, k1, X1, e1, E1, A1, st1⟩ := newP X0 hx hZ (hw _ (List.mem_of_getElem? (i := 19) rfl)) e0 (g := (mkF m 15 #[.val (.ref b), .val (.int (Int32.ofNat N)), .unset] [(.int (Int32.ofNat N))])) rfl (hb hby own_d6_15) rfl (own_nnN (by omega)) (cap := 128) (by rw [own_clN (by omega)]; omega) (by decide) (by decide) (by decide)
  obtain ⟨b1, g1⟩ : ∃ z, z = h0.size := ⟨_, rfl⟩
  rw [← g1] at A1 st1
  have V1 : Arv Z h1 b1 k1 .byte (Int32.ofNat N) (List.replicate N (.int (0 : Int32))) (.int (0 : Int32)) := (Arv.new A1 (own_nnN (by omega))).pad (pad_rep [] (.int (0 : Int32)) N)
  refine own_st (g' := (mkF m 17 #[.val (.ref b), .val (.int (Int32.ofNat N)), .unset] [(.ref b1)])) st1 ?_
  refine own_st (g' := (mkF m 23 #[.val (.ref b), .val (.int (Int32.ofNat N)), .val (.ref b1)] [(.ref b), (.int (0 : Int32)), (.ref b1), (.int (0 : Int32)), (.ref b)])) (fun _ q => XS.astoreN X1.here hx rfl (hb hby own_d6_17) rfl rfl (l' := #[.val (.ref b), .val (.int (Int32.ofNat N)), .val (.ref b1)]) rfl (XS.aloadN X1.here hx rfl (hb hby own_d6_18) rfl rfl (XS.iconst X1.here hx rfl (hb hby own_d6_19) (XS.aloadN X1.here hx rfl (hb hby own_d6_20) rfl rfl (XS.iconst X1.here hx rfl (hb hby own_d6_21) (XS.aloadN X1.here hx rfl (hb hby own_d6_22) rfl rfl (q))))))) ?_
  refine own_st (g' := (mkF m 24 #[.val (.ref b), .val (.int (Int32.ofNat N)), .val (.ref b1)] [(.int (Int32.ofNat cap)), (.int (0 : Int32)), (.ref b1), (.int (0 : Int32)), (.ref b)])) (own_alen X1 hx hZ e1 (VA.ext E1) (hb hby own_d6_23)) ?_
  refine own_st (g' := (mkF m 25 #[.val (.ref b), .val (.int (Int32.ofNat N)), .val (.ref b1)] [(.int (Int32.ofNat N)), (.int (Int32.ofNat cap)), (.int (0 : Int32)), (.ref b1), (.int (0 : Int32)), (.ref b)])) (fun _ q => XS.iloadN X1.here hx rfl (hb hby own_d6_24) rfl (q)) ?_
  have K2 : own_Bk l ({ frames := 1, cells := 1, slots := 128, locals := 21 } : Room) p e below s #[(.ref b), (.int (Int32.ofNat N))] (⟨"java/lang/Math", "min", "(II)I"⟩ : MethodName) 4 h1 #[(.int (Int32.ofNat cap)), (.int (Int32.ofNat N))] 0 0 (fun v h L => v = some (.int (Int32.ofNat (min (cap) (N)))) ∧ L = [] ∧ h = h1) := backOf (s := s) (R := ({ frames := 1, cells := 1, slots := 128, locals := 21 } : Room)) (W := 4) (Q := (fun v h L => v = some (.int (Int32.ofNat (min (cap) (N)))) ∧ L = [] ∧ h = h1)) (rm := ({ frames := 0, cells := 0, slots := 0, locals := 0 } : Room)) (own_rm_minN l Z a0 hw [] (cap) (N)  h1 (by omega) (by omega) ) hZ (hw _ (List.mem_of_getElem? (i := 126) rfl)) (hw _ (List.mem_of_getElem? (i := 116) rfl)) (by decide) (by decide)
  obtain ⟨T3, X3, e3, st3⟩ := own_pure (own_cS X1 hx hZ hown (hw _ (List.mem_of_getElem? (i := 124) rfl)) (hw _ (List.mem_of_getElem? (i := 125) rfl)) (hw _ (List.mem_of_getElem? (i := 116) rfl)) (hw _ (List.mem_of_getElem? (i := 126) rfl)) (by decide) e1 (h := h1) (argsL := [(.int (Int32.ofNat cap)), (.int (Int32.ofNat N))]) (rest := [(.int (0 : Int32)), (.ref b1), (.int (0 : Int32)), (.ref b)]) K2 (pc := 25) (Ls := #[.val (.ref b), .val (.int (Int32.ofNat N)), .val (.ref b1)]) (by rw [hml]; rfl) (lenOf own_pd1 rfl) rfl (Nat.le_of_eq rfl) (hb hby own_d6_25) (by decide) (by decide))
  refine own_st (g' := (mkF m 28 #[.val (.ref b), .val (.int (Int32.ofNat N)), .val (.ref b1)] [(.int (Int32.ofNat (min (cap) (N)))), (.int (0 : Int32)), (.ref b1), (.int (0 : Int32)), (.ref b)])) st3 ?_
  obtain ⟨T4, h4, L4, X4, e4, N4, K4, V4, st4⟩ := own_acN X3 hx hZ hown (hw _ (List.mem_of_getElem? (i := 127) rfl)) (hw _ (List.mem_of_getElem? (i := 103) rfl)) (hw _ (List.mem_of_getElem? (i := 101) rfl)) (hw _ (List.mem_of_getElem? (i := 102) rfl)) e3 (a := b) (b := b1) (n1 := cap) (n2 := N) (sp := 0) (dp := 0) (nn := (min (cap) (N))) (VA.ext E1) V1 la (List.length_replicate) (by omega) (by omega) (by omega) (by omega) N0 (Nat.le_trans Z0 (Nat.le_of_eq g1.symm)) (pc := 28) (Ls := #[.val (.ref b), .val (.int (Int32.ofNat N)), .val (.ref b1)]) (rest := []) (by rw [hml]; rfl) (hb hby own_d6_28) (by decide) (W := 0) (Nat.le_of_eq rfl) (by decide)
  refine own_st (g' := (mkF m 31 #[.val (.ref b), .val (.int (Int32.ofNat N)), .val (.ref b1)] [])) st4 ?_
  refine own_st (g' := (mkF m 32 #[.val (.ref b), .val (.int (Int32.ofNat N)), .val (.ref b1)] [(.ref b1)])) (fun _ q => XS.aloadN X4.here hx rfl (hb hby own_d6_31) rfl rfl (q)) ?_
  exact own_goR X4 hlk hx (t := (.array .byte)) rfl rfl Bd.returns (hb hby own_d6_32) (by rw [e4]; exact ⟨N4, (((Keep.refl h0 []).ext E1).trans K4 (allS (Or.inr (Nat.le_trans (Nat.le_refl _) (Nat.le_of_eq g1.symm))) all0)), b1, _, _, rfl, (Nat.le_of_eq g1.symm), V4, (own_cpGrow la (by omega)).1, (own_cpGrow la (by omega)).2⟩) (by decide) (by decide)
theorem own_d7_0 : decode jdk_68_method_9_code 0 = .ok (.aload_n 0, 1) := by decide +kernel
theorem own_d7_1 : decode jdk_68_method_9_code 1 = .ok (.getfield 15, 3) := by decide +kernel
theorem own_d7_4 : decode jdk_68_method_9_code 4 = .ok (.arraylength, 1) := by decide +kernel
theorem own_d7_5 : decode jdk_68_method_9_code 5 = .ok (.aload_n 0, 1) := by decide +kernel
theorem own_d7_6 : decode jdk_68_method_9_code 6 = .ok (.getfield 22, 3) := by decide +kernel
theorem own_d7_9 : decode jdk_68_method_9_code 9 = .ok (.ishr, 1) := by decide +kernel
theorem own_d7_10 : decode jdk_68_method_9_code 10 = .ok (.istore_n 2, 1) := by decide +kernel
theorem own_d7_11 : decode jdk_68_method_9_code 11 = .ok (.iload_n 1, 1) := by decide +kernel
theorem own_d7_12 : decode jdk_68_method_9_code 12 = .ok (.iload_n 2, 1) := by decide +kernel
theorem own_d7_13 : decode jdk_68_method_9_code 13 = .ok (.isub, 1) := by decide +kernel
theorem own_d7_14 : decode jdk_68_method_9_code 14 = .ok (.ifCond .le 24, 3) := by decide +kernel
theorem own_d7_38 : decode jdk_68_method_9_code 38 = .ok (.return_, 1) := by decide +kernel
set_option maxRecDepth 65536 in
set_option maxHeartbeats 40000000 in
theorem own_rm_ensF (l : Launch) (Z : State) (a0 : Array Value) (hw : ∀ d ∈ tables_1, d.before a0 Z = true) (ws : List Jvm.Cond) (a b : Addr) (kb : ClassId) (n cap : Nat) (vs : List Value) (nq : Nat) (h0 : Heap) (EA : Exa Z h0 a "java/lang/StringBuilder") (FA : Fld Z h0 a "java/lang/AbstractStringBuilder" "value" "[B" (.ref b)) (CA : Fld Z h0 a "java/lang/AbstractStringBuilder" "coder" "B" (.int (0 : Int32))) (NA : Fld Z h0 a "java/lang/AbstractStringBuilder" "count" "I" (.int (Int32.ofNat n))) (VA : Arv Z h0 b kb .byte (Int32.ofNat cap) vs (.int (0 : Int32))) (la : vs.length = cap) (hn : n ≤ cap) (hK : cap ≤ 100000) (hq : nq ≤ cap) :
    MetFree l (⟨"java/lang/AbstractStringBuilder", "ensureCapacityInternal", "(I)V"⟩ : MethodName) (head1 (Jvm.Cond.code (⟨"java/lang/AbstractStringBuilder", "ensureCapacityInternal", "(I)V"⟩ : MethodName) jdk_68_method_9_code 3 none :: ws) ({ frames := 0, cells := 0, slots := 0, locals := 0 } : Room)) (fun aa U => aa = #[(.ref a), (.int (Int32.ofNat nq))] ∧ Z.Warmed39 U.vm ∧ U.heap = h0) (fun _ _ _ _ _ => True) (fun _ U o_ U' => ∃ v L, o_ = .returned v ∧ (fun v h L => v = none ∧ L = [] ∧ h = h0) v U'.heap L ∧ FrameEnd U o_ U' L ({ frames := 0, cells := 0, slots := 0, locals := 0 } : Room).cells ({ frames := 0, cells := 0, slots := 0, locals := 0 } : Room).slots) := by
  refine MetFree.of_bodySF (plainFor_of_name own_pn2) hisR ?_
  intro p e s m args below meth c s₁ Bd hml0 hP hK
  obtain ⟨rfl, hZ, hh⟩ := hP
  have hx := Bd.exec
  have hby := Bd.bytes
  have hml : c.maxLocals = 3 := hml0
  have hlk : meth.locks = false := BodyLoose.notSynchronized Bd
  have hown : s.vm.findClass "java/lang/AbstractStringBuilder" = some m.cls := findClass_of_methodNamed Bd.named
  have hnm := (name_of_methodNamed Bd.named Bd.method).1
  have X0 : Stand p l e ({ frames := 0, cells := 0, slots := 0, locals := 0 } : Room) s m #[(.ref a), (.int (Int32.ofNat nq))] below meth c s₁ [] 0 0 := Stand.of_body Bd
  have e0 : s₁.heap = h0 := by rw [← hh, Bd.state]; rfl
  rw [own_ef4 m a (Int32.ofNat nq)]
  show own_Go p e below s ({ frames := 0, cells := 0, slots := 0, locals := 0 } : Room).cells ({ frames := 0, cells := 0, slots := 0, locals := 0 } : Room).slots (fun v h L => v = none ∧ L = [] ∧ h = h0) s₁ (mkF m 0 #[.val (.ref a), .val (.int (Int32.ofNat nq)), .unset] [])
  refine own_st (g' := (mkF m 1 #[.val (.ref a), .val (.int (Int32.ofNat nq)), .unset] [(.ref a)])) (fun _ q => XS.aloadN X0.here hx rfl (hb hby own_d7_0) rfl rfl (q)) ?_
  obtain ⟨T1, X1, e1, st1⟩ := getF X0 hx hZ hown (host := "") (Or.inl (hw _ (List.mem_of_getElem? (i := 50) rfl))) Via.refl e0 FA (g := (mkF m 1 #[.val (.ref a), .val (.int (Int32.ofNat nq)), .unset] [(.ref a)])) rfl rfl (hb hby own_d7_1)
  refine own_st (g' := (mkF m 4 #[.val (.ref a), .val (.int (Int32.ofNat nq)), .unset] [(.ref b)])) st1 ?_
  refine own_st (g' := (mkF m 5 #[.val (.ref a), .val (.int (Int32.ofNat nq)), .unset] [(.int (Int32.ofNat cap))])) (own_alen X1 hx hZ e1 VA (hb hby own_d7_4)) ?_
  refine own_st (g' := (mkF m 6 #[.val (.ref a), .val (.int (Int32.ofNat nq)), .unset] [(.ref a), (.int (Int32.ofNat cap))])) (fun _ q => XS.aloadN X1.here hx rfl (hb hby own_d7_5) rfl rfl (q)) ?_
  obtain ⟨T2, X2, e2, st2⟩ := getF X1 hx hZ hown (host := "") (Or.inl (hw _ (List.mem_of_getElem? (i := 52) rfl))) Via.refl e1 CA (g := (mkF m 6 #[.val (.ref a), .val (.int (Int32.ofNat nq)), .unset] [(.ref a), (.int (Int32.ofNat cap))])) rfl rfl (hb hby own_d7_6)
  refine own_st (g' := (mkF m 9 #[.val (.ref a), .val (.int (Int32.ofNat nq)), .unset] [(.int (0 : Int32)), (.int (Int32.ofNat cap))])) st2 ?_
  refine own_st (g' := (mkF m 10 #[.val (.ref a), .val (.int (Int32.ofNat nq)), .unset] [(.int ((Int32.ofNat cap) >>> ((0 : Int32) &&& 31)))])) (fun _ q => XS.ishr X2.here hx rfl (hb hby own_d7_9) rfl (q)) ?_
  rw [own_shr0 (Int32.ofNat cap)]
  refine own_st (g' := (mkF m 38 #[.val (.ref a), .val (.int (Int32.ofNat nq)), .val (.int (Int32.ofNat cap))] [])) (fun _ q => XS.istoreN X2.here hx rfl (hb hby own_d7_10) rfl (l' := #[.val (.ref a), .val (.int (Int32.ofNat nq)), .val (.int (Int32.ofNat cap))]) rfl (XS.iloadN X2.here hx rfl (hb hby own_d7_11) rfl (XS.iloadN X2.here hx rfl (hb hby own_d7_12) rfl (XS.isub X2.here hx rfl (hb hby own_d7_13) rfl (XS.ifYes X2.here hx rfl (pc0 := 14) (pc' := 38) rfl (hb hby own_d7_14) rfl ((if0 _ _).trans (flt (fun q => absurd ((own_posN (i := nq) (j := cap) (by omega) (by omega)).mp q) (by omega))).2.2.2) (by decide) (by decide) (q)))))) ?_
  exact own_goV X2 hlk hx Bd.returns (hb hby own_d7_38) ⟨rfl, rfl, e2⟩ (by decide) (by decide)
abbrev own_Q_ensG (Z : State) (a b : Addr) (kb : ClassId) (n cap : Nat) (vs : List Value) (nq n0 : Nat) (h0 : Heap) : Option Value → Heap → List Loc → Prop := fun v h L => v = none ∧ Fr n0 L ∧ Keep h0 h [a] ∧ Exa Z h a "java/lang/StringBuilder" ∧ ∃ b' kb' us', h0.size ≤ b' ∧ Fld Z h a "java/lang/AbstractStringBuilder" "value" "[B" (.ref b') ∧ Fld Z h a "java/lang/AbstractStringBuilder" "coder" "B" (.int (0 : Int32)) ∧ Fld Z h a "java/lang/AbstractStringBuilder" "count" "I" (.int (Int32.ofNat n)) ∧ Arv Z h b' kb' .byte (Int32.ofNat (cap + max (nq - cap) (cap + 2))) us' (.int (0 : Int32)) ∧ us'.length = (cap + max (nq - cap) (cap + 2)) ∧ us'.take cap = vs
theorem own_d7_17 : decode jdk_68_method_9_code 17 = .ok (.aload_n 0, 1) := by decide +kernel
theorem own_d7_18 : decode jdk_68_method_9_code 18 = .ok (.aload_n 0, 1) := by decide +kernel
theorem own_d7_19 : decode jdk_68_method_9_code 19 = .ok (.getfield 15, 3) := by decide +kernel
theorem own_d7_22 : decode jdk_68_method_9_code 22 = .ok (.aload_n 0, 1) := by decide +kernel
theorem own_d7_23 : decode jdk_68_method_9_code 23 = .ok (.iload_n 1, 1) := by decide +kernel
theorem own_d7_24 : decode jdk_68_method_9_code 24 = .ok (.invokevirtual 104, 3) := by decide +kernel
theorem own_pd3 : parseMethodDescriptor "(I)I" = some ⟨[.int], some .int⟩ := by decide +kernel
theorem own_d7_27 : decode jdk_68_method_9_code 27 = .ok (.aload_n 0, 1) := by decide +kernel
theorem own_d7_28 : decode jdk_68_method_9_code 28 = .ok (.getfield 22, 3) := by decide +kernel
theorem own_d7_31 : decode jdk_68_method_9_code 31 = .ok (.ishl, 1) := by decide +kernel
theorem own_d7_32 : decode jdk_68_method_9_code 32 = .ok (.invokestatic 108, 3) := by decide +kernel
theorem own_pd4 : parseMethodDescriptor "([BI)[B" = some ⟨[(.array .byte), .int], some (.array .byte)⟩ := by decide +kernel
theorem own_d7_35 : decode jdk_68_method_9_code 35 = .ok (.putfield 15, 3) := by decide +kernel
set_option maxRecDepth 65536 in
set_option maxHeartbeats 40000000 in
theorem own_rm_ensG (l : Launch) (Z : State) (a0 : Array Value) (hw : ∀ d ∈ tables_1, d.before a0 Z = true) (ws : List Jvm.Cond) (a b : Addr) (kb : ClassId) (n cap : Nat) (vs : List Value) (nq n0 : Nat) (h0 : Heap) (EA : Exa Z h0 a "java/lang/StringBuilder") (FA : Fld Z h0 a "java/lang/AbstractStringBuilder" "value" "[B" (.ref b)) (CA : Fld Z h0 a "java/lang/AbstractStringBuilder" "coder" "B" (.int (0 : Int32))) (NA : Fld Z h0 a "java/lang/AbstractStringBuilder" "count" "I" (.int (Int32.ofNat n))) (VA : Arv Z h0 b kb .byte (Int32.ofNat cap) vs (.int (0 : Int32))) (la : vs.length = cap) (hn : n ≤ cap) (Z0 : n0 ≤ h0.size) (ga : n0 ≤ a) (hK : cap ≤ 100000) (hq : cap < nq) (hq2 : nq ≤ 100000) (hq3 : (cap + max (nq - cap) (cap + 2)) ≤ 128) :
    MetFree l (⟨"java/lang/AbstractStringBuilder", "ensureCapacityInternal", "(I)V"⟩ : MethodName) (head1 (Jvm.Cond.code (⟨"java/lang/AbstractStringBuilder", "ensureCapacityInternal", "(I)V"⟩ : MethodName) jdk_68_method_9_code 3 none :: ws) ({ frames := 3, cells := 1, slots := 128, locals := 48 } : Room)) (fun aa U => aa = #[(.ref a), (.int (Int32.ofNat nq))] ∧ Z.Warmed39 U.vm ∧ U.heap = h0) (fun _ _ _ _ _ => True) (fun _ U o_ U' => ∃ v L, o_ = .returned v ∧ (own_Q_ensG Z a b kb n cap vs nq n0 h0) v U'.heap L ∧ FrameEnd U o_ U' L ({ frames := 3, cells := 1, slots := 128, locals := 48 } : Room).cells ({ frames := 3, cells := 1, slots := 128, locals := 48 } : Room).slots) := by
  refine MetFree.of_bodySF (plainFor_of_name own_pn2) hisR ?_
  intro p e s m args below meth c s₁ Bd hml0 hP hK
  obtain ⟨rfl, hZ, hh⟩ := hP
  have hx := Bd.exec
  have hby := Bd.bytes
  have hml : c.maxLocals = 3 := hml0
  have hlk : meth.locks = false := BodyLoose.notSynchronized Bd
  have hown : s.vm.findClass "java/lang/AbstractStringBuilder" = some m.cls := findClass_of_methodNamed Bd.named
  have hnm := (name_of_methodNamed Bd.named Bd.method).1
  have X0 : Stand p l e ({ frames := 3, cells := 1, slots := 128, locals := 48 } : Room) s m #[(.ref a), (.int (Int32.ofNat nq))] below meth c s₁ [] 0 0 := Stand.of_body Bd
  have e0 : s₁.heap = h0 := by rw [← hh, Bd.state]; rfl
  rw [own_ef4 m a (Int32.ofNat nq)]
  show own_Go p e below s ({ frames := 3, cells := 1, slots := 128, locals := 48 } : Room).cells ({ frames := 3, cells := 1, slots := 128, locals := 48 } : Room).slots (own_Q_ensG Z a b kb n cap vs nq n0 h0) s₁ (mkF m 0 #[.val (.ref a), .val (.int (Int32.ofNat nq)), .unset] [])
  have N0 := Fr.nil n0
  refine own_st (g' := (mkF m 1 #[.val (.ref a), .val (.int (Int32.ofNat nq)), .unset] [(.ref a)])) (fun _ q => XS.aloadN X0.here hx rfl (hb hby own_d7_0) rfl rfl (q)) ?_
  obtain ⟨T1, X1, e1, st1⟩ := getF X0 hx hZ hown (host := "") (Or.inl (hw _ (List.mem_of_getElem? (i := 50) rfl))) Via.refl e0 FA (g := (mkF m 1 #[.val (.ref a), .val (.int (Int32.ofNat nq)), .unset] [(.ref a)])) rfl rfl (hb hby own_d7_1)
  refine own_st (g' := (mkF m 4 #[.val (.ref a), .val (.int (Int32.ofNat nq)), .unset] [(.ref b)])) st1 ?_
  refine own_st (g' := (mkF m 5 #[.val (.ref a), .val (.int (Int32.ofNat nq)), .unset] [(.int (Int32.ofNat cap))])) (own_alen X1 hx hZ e1 VA (hb hby own_d7_4)) ?_
  refine own_st (g' := (mkF m 6 #[.val (.ref a), .val (.int (Int32.ofNat nq)), .unset] [(.ref a), (.int (Int32.ofNat cap))])) (fun _ q => XS.aloadN X1.here hx rfl (hb hby own_d7_5) rfl rfl (q)) ?_
  obtain ⟨T2, X2, e2, st2⟩ := getF X1 hx hZ hown (host := "") (Or.inl (hw _ (List.mem_of_getElem? (i := 52) rfl))) Via.refl e1 CA (g := (mkF m 6 #[.val (.ref a), .val (.int (Int32.ofNat nq)), .unset] [(.ref a), (.int (Int32.ofNat cap))])) rfl rfl (hb hby own_d7_6)
  refine own_st (g' := (mkF m 9 #[.val (.ref a), .val (.int (Int32.ofNat nq)), .unset] [(.int (0 : Int32)), (.int (Int32.ofNat cap))])) st2 ?_
  refine own_st (g' := (mkF m 10 #[.val (.ref a), .val (.int (Int32.ofNat nq)), .unset] [(.int ((Int32.ofNat cap) >>> ((0 : Int32) &&& 31)))])) (fun _ q => XS.ishr X2.here hx rfl (hb hby own_d7_9) rfl (q)) ?_
  rw [own_shr0 (Int32.ofNat cap)]
  refine own_st (g' := (mkF m 19 #[.val (.ref a), .val (.int (Int32.ofNat nq)), .val (.int (Int32.ofNat cap))] [(.ref a), (.ref a)])) (fun _ q => XS.istoreN X2.here hx rfl (hb hby own_d7_10) rfl (l' := #[.val (.ref a), .val (.int (Int32.ofNat nq)), .val (.int (Int32.ofNat cap))]) rfl (XS.iloadN X2.here hx rfl (hb hby own_d7_11) rfl (XS.iloadN X2.here hx rfl (hb hby own_d7_12) rfl (XS.isub X2.here hx rfl (hb hby own_d7_13) rfl (XS.ifNo X2.here hx rfl (hb hby own_d7_14) rfl ((if0 _ _).trans (tlt ((own_posN (i := nq) (j := cap) (by omega) (by omega)).mpr (by omega))).2.2.2) (XS.aloadN X2.here hx rfl (hb hby own_d7_17) rfl rfl (XS.aloadN X2.here hx rfl (hb hby own_d7_18) rfl rfl (q)))))))) ?_
  obtain ⟨T3, X3, e3, st3⟩ := getF X2 hx hZ hown (host := "") (Or.inl (hw _ (List.mem_of_getElem? (i := 50) rfl))) Via.refl e2 FA (g := (mkF m 19 #[.val (.ref a), .val (.int (Int32.ofNat nq)), .val (.int (Int32.ofNat cap))] [(.ref a), (.ref a)])) rfl rfl (hb hby own_d7_19)
  refine own_st (g' := (mkF m 22 #[.val (.ref a), .val (.int (Int32.ofNat nq)), .val (.int (Int32.ofNat cap))] [(.ref b), (.ref a)])) st3 ?_
  refine own_st (g' := (mkF m 24 #[.val (.ref a), .val (.int (Int32.ofNat nq)), .val (.int (Int32.ofNat cap))] [(.int (Int32.ofNat nq)), (.ref a), (.ref b), (.ref a)])) (fun _ q => XS.aloadN X3.here hx rfl (hb hby own_d7_22) rfl rfl (XS.iloadN X3.here hx rfl (hb hby own_d7_23) rfl (q))) ?_
  have K4 : own_Bk l ({ frames := 3, cells := 1, slots := 128, locals := 48 } : Room) p e below s #[(.ref a), (.int (Int32.ofNat nq))] (⟨"java/lang/AbstractStringBuilder", "newCapacity", "(I)I"⟩ : MethodName) 2 h0 #[(.ref a), (.int (Int32.ofNat nq))] 0 0 (fun v h L => v = some (.int (Int32.ofNat (cap + max (nq - cap) (cap + 2)))) ∧ L = [] ∧ h = h0) := backOf (s := s) (R := ({ frames := 3, cells := 1, slots := 128, locals := 48 } : Room)) (W := 2) (Q := (fun v h L => v = some (.int (Int32.ofNat (cap + max (nq - cap) (cap + 2)))) ∧ L = [] ∧ h = h0)) (rm := ({ frames := 2, cells := 0, slots := 0, locals := 29 } : Room)) (own_rm_newCap l Z a0 hw [] a b kb n cap vs (nq)  h0 EA FA CA NA VA la (by omega) (by omega) (by omega) (by omega) ) hZ (hw _ (List.mem_of_getElem? (i := 109) rfl)) (hw _ (List.mem_of_getElem? (i := 46) rfl)) (by decide) (by decide)
  obtain ⟨T5, X5, e5, st5⟩ := own_pure (own_cP X3 hx hZ hown (hw _ (List.mem_of_getElem? (i := 105) rfl)) (hw _ (List.mem_of_getElem? (i := 106) rfl)) (hw _ (List.mem_of_getElem? (i := 108) rfl)) (hw _ (List.mem_of_getElem? (i := 109) rfl)) (by decide) e3 (h := h0) (b := a) EA (argsL := [(.int (Int32.ofNat nq))]) (rest := [(.ref b), (.ref a)]) K4 (pc := 24) (Ls := #[.val (.ref a), .val (.int (Int32.ofNat nq)), .val (.int (Int32.ofNat cap))]) (by rw [hml]; rfl) (lenOf own_pd3 rfl) rfl (Nat.le_of_eq rfl) (hb hby own_d7_24) (by decide) (by decide))
  refine own_st (g' := (mkF m 27 #[.val (.ref a), .val (.int (Int32.ofNat nq)), .val (.int (Int32.ofNat cap))] [(.int (Int32.ofNat (cap + max (nq - cap) (cap + 2)))), (.ref b), (.ref a)])) st5 ?_
  refine own_st (g' := (mkF m 28 #[.val (.ref a), .val (.int (Int32.ofNat nq)), .val (.int (Int32.ofNat cap))] [(.ref a), (.int (Int32.ofNat (cap + max (nq - cap) (cap + 2)))), (.ref b), (.ref a)])) (fun _ q => XS.aloadN X5.here hx rfl (hb hby own_d7_27) rfl rfl (q)) ?_
  obtain ⟨T6, X6, e6, st6⟩ := getF X5 hx hZ hown (host := "") (Or.inl (hw _ (List.mem_of_getElem? (i := 52) rfl))) Via.refl e5 CA (g := (mkF m 28 #[.val (.ref a), .val (.int (Int32.ofNat nq)), .val (.int (Int32.ofNat cap))] [(.ref a), (.int (Int32.ofNat (cap + max (nq - cap) (cap + 2)))), (.ref b), (.ref a)])) rfl rfl (hb hby own_d7_28)
  refine own_st (g' := (mkF m 31 #[.val (.ref a), .val (.int (Int32.ofNat nq)), .val (.int (Int32.ofNat cap))] [(.int (0 : Int32)), (.int (Int32.ofNat (cap + max (nq - cap) (cap + 2)))), (.ref b), (.ref a)])) st6 ?_
  refine own_st (g' := (mkF m 32 #[.val (.ref a), .val (.int (Int32.ofNat nq)), .val (.int (Int32.ofNat cap))] [(.int ((Int32.ofNat (cap + max (nq - cap) (cap + 2))) <<< ((0 : Int32) &&& 31))), (.ref b), (.ref a)])) (fun _ q => XS.ishl X6.here hx rfl (hb hby own_d7_31) rfl (q)) ?_
  rw [own_shl0 (Int32.ofNat (cap + max (nq - cap) (cap + 2)))]
  have K7 : own_Bk l ({ frames := 3, cells := 1, slots := 128, locals := 48 } : Room) p e below s #[(.ref a), (.int (Int32.ofNat nq))] (⟨"java/util/Arrays", "copyOf", "([BI)[B"⟩ : MethodName) 1 h0 #[(.ref b), (.int (Int32.ofNat (cap + max (nq - cap) (cap + 2))))] 1 128 (own_Q_copyOf Z b kb cap ((cap + max (nq - cap) (cap + 2))) n0 vs h0) := backOf (s := s) (R := ({ frames := 3, cells := 1, slots := 128, locals := 48 } : Room)) (W := 1) (Q := (own_Q_copyOf Z b kb cap ((cap + max (nq - cap) (cap + 2))) n0 vs h0)) (rm := ({ frames := 1, cells := 1, slots := 128, locals := 21 } : Room)) (own_rm_copyOf l Z a0 hw [] b kb cap ((cap + max (nq - cap) (cap + 2))) n0 vs h0 Z0 VA la (by omega) (by omega)) hZ (hw _ (List.mem_of_getElem? (i := 123) rfl)) (hw _ (List.mem_of_getElem? (i := 122) rfl)) (by decide) (by decide)
  obtain ⟨_, L8, T8, X8, ⟨N8q, K8, b8, kb8, us8, rfl, g8, V8, l8, tk8⟩, st8⟩ := own_cS X6 hx hZ hown (hw _ (List.mem_of_getElem? (i := 120) rfl)) (hw _ (List.mem_of_getElem? (i := 121) rfl)) (hw _ (List.mem_of_getElem? (i := 122) rfl)) (hw _ (List.mem_of_getElem? (i := 123) rfl)) (by decide) e6 (h := h0) (argsL := [(.ref b), (.int (Int32.ofNat (cap + max (nq - cap) (cap + 2))))]) (rest := [(.ref a)]) K7 (pc := 32) (Ls := #[.val (.ref a), .val (.int (Int32.ofNat nq)), .val (.int (Int32.ofNat cap))]) (by rw [hml]; rfl) (lenOf own_pd4 rfl) rfl (Nat.le_of_eq rfl) (hb hby own_d7_32) (by decide) (by decide)
  have N8 := Fr.app N0 N8q
  refine own_st (g' := (mkF m 35 #[.val (.ref a), .val (.int (Int32.ofNat nq)), .val (.int (Int32.ofNat cap))] [(.ref b8), (.ref a)])) st8 ?_
  obtain ⟨T9, h9, X9, e9, W9, st9⟩ := putF X8 hx hZ hown (host := "") (Or.inl (hw _ (List.mem_of_getElem? (i := 50) rfl))) Via.refl rfl (FA.keep K8 nin0) (EA.keep K8) (Or.inl (hw _ (List.mem_of_getElem? (i := 51) rfl))) (hw _ (List.mem_of_getElem? (i := 37) rfl)) (ty := (.array .byte)) (by decide) rfl rfl (g := (mkF m 35 #[.val (.ref a), .val (.int (Int32.ofNat nq)), .val (.int (Int32.ofNat cap))] [(.ref b8), (.ref a)])) rfl rfl (hb hby own_d7_35)
  have F9 : Fld Z h9 a "java/lang/AbstractStringBuilder" "value" "[B" (.ref b8) := (FA.keep K8 nin0).same W9
  have N9 := Fr.snoc X9 N8 ga
  refine own_st (g' := (mkF m 38 #[.val (.ref a), .val (.int (Int32.ofNat nq)), .val (.int (Int32.ofNat cap))] [])) st9 ?_
  exact own_goV X9 hlk hx Bd.returns (hb hby own_d7_38) (by rw [e9]; exact ⟨rfl, N9, (((Keep.refl h0 [a]).trans K8 all0).wr W9 (Or.inl (List.mem_of_getElem? (i := 0) rfl))), ((EA.keep K8).wr W9), b8, _, _, (Nat.le_trans (Nat.le_refl _) g8), F9, ((CA.keep K8 nin0).other W9 (Or.inr (slot_ne (Or.inl (hw _ (List.mem_of_getElem? (i := 53) rfl))) (Or.inl (hw _ (List.mem_of_getElem? (i := 51) rfl))) (by decide) (t := .byte) (by decide) (t' := (.array .byte)) (by decide)))), ((NA.keep K8 nin0).other W9 (Or.inr (slot_ne (Or.inl (hw _ (List.mem_of_getElem? (i := 78) rfl))) (Or.inl (hw _ (List.mem_of_getElem? (i := 51) rfl))) (by decide) (t := .int) (by decide) (t' := (.array .byte)) (by decide)))), (V8.other W9 (Ne.symm (Nat.ne_of_lt (Nat.lt_of_lt_of_le EA.lt g8)))), l8, tk8⟩) (by decide) (by decide)
theorem own_ef5 (m : MethodId) (x0 : Addr) (x1 : Addr) : entryFrame m #[(.ref x0), (.ref x1)] 2 = mkF m 0 #[.val (.ref x0), .val (.ref x1)] [] := by first | (simp [entryFrame, mkF, argsToLocals, Value.category, maxLocals]; done) | rfl
theorem own_d8_0 : decode jdk_68_method_71_code 0 = .ok (.getstatic 18, 3) := by decide +kernel
theorem own_d8_3 : decode jdk_68_method_71_code 3 = .ok (.ifCond .eq 18, 3) := by decide +kernel
theorem own_d8_6 : decode jdk_68_method_71_code 6 = .ok (.aload_n 0, 1) := by decide +kernel
theorem own_d8_7 : decode jdk_68_method_71_code 7 = .ok (.getfield 22, 3) := by decide +kernel
theorem own_d8_10 : decode jdk_68_method_71_code 10 = .ok (.aload_n 1, 1) := by decide +kernel
theorem own_d8_11 : decode jdk_68_method_71_code 11 = .ok (.invokevirtual 40, 3) := by decide +kernel
theorem own_d8_14 : decode jdk_68_method_71_code 14 = .ok (.if_icmp .eq 7, 3) := by decide +kernel
theorem own_d8_21 : decode jdk_68_method_71_code 21 = .ok (.return_, 1) := by decide +kernel
set_option maxRecDepth 65536 in
set_option maxHeartbeats 40000000 in
theorem own_rm_infl (l : Launch) (Z : State) (a0 : Array Value) (hw : ∀ d ∈ tables_1, d.before a0 Z = true) (ws : List Jvm.Cond) (a b : Addr) (kb : ClassId) (n cap : Nat) (vs : List Value) (x t : Addr) (kt : ClassId) (lm : Nat) (us : List Value) (z : Int32) (n0 : Nat) (h0 : Heap) (EA : Exa Z h0 a "java/lang/StringBuilder") (FA : Fld Z h0 a "java/lang/AbstractStringBuilder" "value" "[B" (.ref b)) (CA : Fld Z h0 a "java/lang/AbstractStringBuilder" "coder" "B" (.int (0 : Int32))) (NA : Fld Z h0 a "java/lang/AbstractStringBuilder" "count" "I" (.int (Int32.ofNat n))) (VA : Arv Z h0 b kb .byte (Int32.ofNat cap) vs (.int (0 : Int32))) (la : vs.length = cap) (hn : n ≤ cap) (EX : Exa Z h0 x "java/lang/String") (FX : Fld Z h0 x "java/lang/String" "value" "[B" (.ref t)) (CX : Fld Z h0 x "java/lang/String" "coder" "B" (.int (0 : Int32))) (VX : Arv Z h0 t kt .byte (Int32.ofNat lm) us (.int (0 : Int32))) (lu : us.length = lm) (O : Sta Z Z.heap "java/lang/String" "COMPACT_STRINGS" "Z" (.int z)) (hz : ¬ z = (0 : Int32)) (X00 : Old Z n0 h0) :
    MetFree l (⟨"java/lang/AbstractStringBuilder", "inflateIfNeededFor", "(Ljava/lang/String;)V"⟩ : MethodName) (head1 (Jvm.Cond.code (⟨"java/lang/AbstractStringBuilder", "inflateIfNeededFor", "(Ljava/lang/String;)V"⟩ : MethodName) jdk_68_method_71_code 2 none :: ws) ({ frames := 1, cells := 0, slots := 0, locals := 13 } : Room)) (fun aa U => aa = #[(.ref a), (.ref x)] ∧ Z.Warmed39 U.vm ∧ U.heap = h0) (fun _ _ _ _ _ => True) (fun _ U o_ U' => ∃ v L, o_ = .returned v ∧ (fun v h L => v = none ∧ L = [] ∧ h = h0) v U'.heap L ∧ FrameEnd U o_ U' L ({ frames := 1, cells := 0, slots := 0, locals := 13 } : Room).cells ({ frames := 1, cells := 0, slots := 0, locals := 13 } : Room).slots) := by
  refine MetFree.of_bodySF (plainFor_of_name own_pn2) hisR ?_
  intro p e s m args below meth c s₁ Bd hml0 hP hK
  obtain ⟨rfl, hZ, hh⟩ := hP
  have hx := Bd.exec
  have hby := Bd.bytes
  have hml : c.maxLocals = 2 := hml0
  have hlk : meth.locks = false := BodyLoose.notSynchronized Bd
  have hown : s.vm.findClass "java/lang/AbstractStringBuilder" = some m.cls := findClass_of_methodNamed Bd.named
  have hnm := (name_of_methodNamed Bd.named Bd.method).1
  have X0 : Stand p l e ({ frames := 1, cells := 0, slots := 0, locals := 13 } : Room) s m #[(.ref a), (.ref x)] below meth c s₁ [] 0 0 := Stand.of_body Bd
  have e0 : s₁.heap = h0 := by rw [← hh, Bd.state]; rfl
  rw [own_ef5 m a x]
  show own_Go p e below s ({ frames := 1, cells := 0, slots := 0, locals := 13 } : Room).cells ({ frames := 1, cells := 0, slots := 0, locals := 13 } : Room).slots (fun v h L => v = none ∧ L = [] ∧ h = h0) s₁ (mkF m 0 #[.val (.ref a), .val (.ref x)] [])
  have N0 := Fr.nil n0
  obtain ⟨T1, X1, e1, st1⟩ := getS2 X0 hx hZ hown (host := "") (Or.inl (hw _ (List.mem_of_getElem? (i := 49) rfl))) Via.refl e0 (O.ext X00.2) (g := (mkF m 0 #[.val (.ref a), .val (.ref x)] [])) rfl (hb hby own_d8_0)
  refine own_st (g' := (mkF m 3 #[.val (.ref a), .val (.ref x)] [(.int z)])) st1 ?_
  refine own_st (g' := (mkF m 7 #[.val (.ref a), .val (.ref x)] [(.ref a)])) (fun _ q => XS.ifNo X1.here hx rfl (hb hby own_d8_3) rfl ((if0 _ _).trans (feq hz).1) (XS.aloadN X1.here hx rfl (hb hby own_d8_6) rfl rfl (q))) ?_
  obtain ⟨T2, X2, e2, st2⟩ := getF X1 hx hZ hown (host := "") (Or.inl (hw _ (List.mem_of_getElem? (i := 52) rfl))) Via.refl e1 CA (g := (mkF m 7 #[.val (.ref a), .val (.ref x)] [(.ref a)])) rfl rfl (hb hby own_d8_7)
  refine own_st (g' := (mkF m 10 #[.val (.ref a), .val (.ref x)] [(.int (0 : Int32))])) st2 ?_
  refine own_st (g' := (mkF m 11 #[.val (.ref a), .val (.ref x)] [(.ref x), (.int (0 : Int32))])) (fun _ q => XS.aloadN X2.here hx rfl (hb hby own_d8_10) rfl rfl (q)) ?_
  have K3 : own_Bk l ({ frames := 1, cells := 0, slots := 0, locals := 13 } : Room) p e below s #[(.ref a), (.ref x)] (⟨"java/lang/String", "coder", "()B"⟩ : MethodName) 1 h0 #[(.ref x)] 0 0 (fun v h L => v = some (.int (0 : Int32)) ∧ L = [] ∧ h = h0) := backOf (s := s) (R := ({ frames := 1, cells := 0, slots := 0, locals := 13 } : Room)) (W := 1) (Q := (fun v h L => v = some (.int (0 : Int32)) ∧ L = [] ∧ h = h0)) (rm := ({ frames := 0, cells := 0, slots := 0, locals := 0 } : Room)) (own_rm_coder l Z a0 hw [] x t kt lm us z n0  h0 EX FX CX VX lu O hz X00 ) hZ (hw _ (List.mem_of_getElem? (i := 76) rfl)) (hw _ (List.mem_of_getElem? (i := 2) rfl)) (by decide) (by decide)
  obtain ⟨T4, X4, e4, st4⟩ := own_pure (own_cV X2 hx hZ hown (hw _ (List.mem_of_getElem? (i := 94) rfl)) (hw _ (List.mem_of_getElem? (i := 73) rfl)) (notFace_of_selects (args := #[]) (mvT hZ (hw _ (List.mem_of_getElem? (i := 75) rfl)))) (hw _ (List.mem_of_getElem? (i := 75) rfl)) (hw _ (List.mem_of_getElem? (i := 74) rfl)) (by decide) e2 (h := h0) (b := x) EX (argsL := []) (rest := [(.int (0 : Int32))]) K3 (pc := 11) (Ls := #[.val (.ref a), .val (.ref x)]) (by rw [hml]; rfl) (lenOf own_pd0 rfl) rfl (Nat.le_of_eq rfl) (hb hby own_d8_11) (by decide) (by decide))
  refine own_st (g' := (mkF m 14 #[.val (.ref a), .val (.ref x)] [(.int (0 : Int32)), (.int (0 : Int32))])) st4 ?_
  refine own_st (g' := (mkF m 21 #[.val (.ref a), .val (.ref x)] [])) (fun _ q => XS.icmpYes X4.here hx rfl (pc0 := 14) (pc' := 21) rfl (hb hby own_d8_14) rfl (teq (by decide : (0 : Int32) = (0 : Int32))).1 (by decide) (by decide) (q)) ?_
  exact own_goV X4 hlk hx Bd.returns (hb hby own_d8_21) ⟨rfl, rfl, e4⟩ (by decide) (by decide)
theorem own_ef6 (m : MethodId) (x0 : Addr) (x1 : Addr) (x2 : Int32) (x3 : Int32) : entryFrame m #[(.ref x0), (.ref x1), (.int x2), (.int x3)] 4 = mkF m 0 #[.val (.ref x0), .val (.ref x1), .val (.int x2), .val (.int x3)] [] := by first | (simp [entryFrame, mkF, argsToLocals, Value.category, maxLocals]; done) | rfl
abbrev own_Q_getB (Z : State) (b : Addr) (kb : ClassId) (cap i n0 : Nat) (vs : List Value) (z : Int32) (x t : Addr) (kt : ClassId) (lm : Nat) (us : List Value) (h0 : Heap) : Option Value → Heap → List Loc → Prop := fun v h L => v = none ∧ Fr n0 L ∧ Keep h0 h [b] ∧ Arv Z h b kb .byte (Int32.ofNat cap) (own_cp vs i us) (.int (0 : Int32))
theorem own_d9_0 : decode jdk_42_method_147_code 0 = .ok (.aload_n 0, 1) := by decide +kernel
theorem own_d9_1 : decode jdk_42_method_147_code 1 = .ok (.invokevirtual 335, 3) := by decide +kernel
theorem own_d9_4 : decode jdk_42_method_147_code 4 = .ok (.iload_n 3, 1) := by decide +kernel
theorem own_d9_5 : decode jdk_42_method_147_code 5 = .ok (.if_icmp .ne 23, 3) := by decide +kernel
theorem own_d9_8 : decode jdk_42_method_147_code 8 = .ok (.aload_n 0, 1) := by decide +kernel
theorem own_d9_9 : decode jdk_42_method_147_code 9 = .ok (.getfield 9, 3) := by decide +kernel
theorem own_d9_12 : decode jdk_42_method_147_code 12 = .ok (.iconst 0, 1) := by decide +kernel
theorem own_d9_13 : decode jdk_42_method_147_code 13 = .ok (.aload_n 1, 1) := by decide +kernel
theorem own_d9_14 : decode jdk_42_method_147_code 14 = .ok (.iload_n 2, 1) := by decide +kernel
theorem own_d9_15 : decode jdk_42_method_147_code 15 = .ok (.iload_n 3, 1) := by decide +kernel
theorem own_d9_16 : decode jdk_42_method_147_code 16 = .ok (.ishl, 1) := by decide +kernel
theorem own_d9_17 : decode jdk_42_method_147_code 17 = .ok (.aload_n 0, 1) := by decide +kernel
theorem own_d9_18 : decode jdk_42_method_147_code 18 = .ok (.getfield 9, 3) := by decide +kernel
theorem own_d9_21 : decode jdk_42_method_147_code 21 = .ok (.arraylength, 1) := by decide +kernel
theorem own_d9_22 : decode jdk_42_method_147_code 22 = .ok (.invokestatic 212, 3) := by decide +kernel
theorem own_d9_25 : decode jdk_42_method_147_code 25 = .ok (.goto 18, 3) := by decide +kernel
theorem own_d9_43 : decode jdk_42_method_147_code 43 = .ok (.return_, 1) := by decide +kernel
set_option maxRecDepth 65536 in
set_option maxHeartbeats 40000000 in
theorem own_rm_getB (l : Launch) (Z : State) (a0 : Array Value) (hw : ∀ d ∈ tables_1, d.before a0 Z = true) (ws : List Jvm.Cond) (b : Addr) (kb : ClassId) (cap i n0 : Nat) (vs : List Value) (z : Int32) (x t : Addr) (kt : ClassId) (lm : Nat) (us : List Value) (h0 : Heap) (EX : Exa Z h0 x "java/lang/String") (FX : Fld Z h0 x "java/lang/String" "value" "[B" (.ref t)) (CX : Fld Z h0 x "java/lang/String" "coder" "B" (.int (0 : Int32))) (VX : Arv Z h0 t kt .byte (Int32.ofNat lm) us (.int (0 : Int32))) (lu : us.length = lm) (VA : Arv Z h0 b kb .byte (Int32.ofNat cap) vs (.int (0 : Int32))) (la : vs.length = cap) (O : Sta Z Z.heap "java/lang/String" "COMPACT_STRINGS" "Z" (.int z)) (hz : ¬ z = (0 : Int32)) (X00 : Old Z n0 h0) (gb : n0 ≤ b) (hK : cap ≤ 100000) (hi : i + lm ≤ cap) :
    MetFree l (⟨"java/lang/String", "getBytes", "([BIB)V"⟩ : MethodName) (head1 (Jvm.Cond.code (⟨"java/lang/String", "getBytes", "([BIB)V"⟩ : MethodName) jdk_42_method_147_code 4 none :: ws) ({ frames := 1, cells := 0, slots := 0, locals := 21 } : Room)) (fun aa U => aa = #[(.ref x), (.ref b), (.int (Int32.ofNat i)), (.int (0 : Int32))] ∧ Z.Warmed39 U.vm ∧ U.heap = h0) (fun _ _ _ _ _ => True) (fun _ U o_ U' => ∃ v L, o_ = .returned v ∧ (own_Q_getB Z b kb cap i n0 vs z x t kt lm us h0) v U'.heap L ∧ FrameEnd U o_ U' L ({ frames := 1, cells := 0, slots := 0, locals := 21 } : Room).cells ({ frames := 1, cells := 0, slots := 0, locals := 21 } : Room).slots) := by
  refine MetFree.of_bodySF (plainFor_of_name own_pn0) hisR ?_
  intro p e s m args below meth c s₁ Bd hml0 hP hK
  obtain ⟨rfl, hZ, hh⟩ := hP
  have hx := Bd.exec
  have hby := Bd.bytes
  have hml : c.maxLocals = 4 := hml0
  have hlk : meth.locks = false := BodyLoose.notSynchronized Bd
  have hown : s.vm.findClass "java/lang/String" = some m.cls := findClass_of_methodNamed Bd.named
  have hnm := (name_of_methodNamed Bd.named Bd.method).1
  have X0 : Stand p l e ({ frames := 1, cells := 0, slots := 0, locals := 21 } : Room) s m #[(.ref x), (.ref b), (.int (Int32.ofNat i)), (.int (0 : Int32))] below meth c s₁ [] 0 0 := Stand.of_body Bd
  have e0 : s₁.heap = h0 := by rw [← hh, Bd.state]; rfl
  rw [own_ef6 m x b (Int32.ofNat i) (0 : Int32)]
  show own_Go p e below s ({ frames := 1, cells := 0, slots := 0, locals := 21 } : Room).cells ({ frames := 1, cells := 0, slots := 0, locals := 21 } : Room).slots (own_Q_getB Z b kb cap i n0 vs z x t kt lm us h0) s₁ (mkF m 0 #[.val (.ref x), .val (.ref b), .val (.int (Int32.ofNat i)), .val (.int (0 : Int32))] [])
  have N0 := Fr.nil n0
  refine own_st (g' := (mkF m 1 #[.val (.ref x), .val (.ref b), .val (.int (Int32.ofNat i)), .val (.int (0 : Int32))] [(.ref x)])) (fun _ q => XS.aloadN X0.here hx rfl (hb hby own_d9_0) rfl rfl (q)) ?_
  have K1 : own_Bk l ({ frames := 1, cells := 0, slots := 0, locals := 21 } : Room) p e below s #[(.ref x), (.ref b), (.int (Int32.ofNat i)), (.int (0 : Int32))] (⟨"java/lang/String", "coder", "()B"⟩ : MethodName) 0 h0 #[(.ref x)] 0 0 (fun v h L => v = some (.int (0 : Int32)) ∧ L = [] ∧ h = h0) := backOf (s := s) (R := ({ frames := 1, cells := 0, slots := 0, locals := 21 } : Room)) (W := 0) (Q := (fun v h L => v = some (.int (0 : Int32)) ∧ L = [] ∧ h = h0)) (rm := ({ frames := 0, cells := 0, slots := 0, locals := 0 } : Room)) (own_rm_coder l Z a0 hw [] x t kt lm us z n0  h0 EX FX CX VX lu O hz X00 ) hZ (hw _ (List.mem_of_getElem? (i := 76) rfl)) (hw _ (List.mem_of_getElem? (i := 2) rfl)) (by decide) (by decide)
  obtain ⟨T2, X2, e2, st2⟩ := own_pure (own_cV X0 hx hZ hown (hw _ (List.mem_of_getElem? (i := 72) rfl)) (hw _ (List.mem_of_getElem? (i := 73) rfl)) (notFace_of_selects (args := #[]) (mvT hZ (hw _ (List.mem_of_getElem? (i := 75) rfl)))) (hw _ (List.mem_of_getElem? (i := 75) rfl)) (hw _ (List.mem_of_getElem? (i := 74) rfl)) (by decide) e0 (h := h0) (b := x) EX (argsL := []) (rest := []) K1 (pc := 1) (Ls := #[.val (.ref x), .val (.ref b), .val (.int (Int32.ofNat i)), .val (.int (0 : Int32))]) (by rw [hml]; rfl) (lenOf own_pd0 rfl) rfl (Nat.le_of_eq rfl) (hb hby own_d9_1) (by decide) (by decide))
  refine own_st (g' := (mkF m 4 #[.val (.ref x), .val (.ref b), .val (.int (Int32.ofNat i)), .val (.int (0 : Int32))] [(.int (0 : Int32))])) st2 ?_
  refine own_st (g' := (mkF m 9 #[.val (.ref x), .val (.ref b), .val (.int (Int32.ofNat i)), .val (.int (0 : Int32))] [(.ref x)])) (fun _ q => XS.iloadN X2.here hx rfl (hb hby own_d9_4) rfl (XS.icmpNo X2.here hx rfl (hb hby own_d9_5) rfl (teq (by decide : (0 : Int32) = (0 : Int32))).2 (XS.aloadN X2.here hx rfl (hb hby own_d9_8) rfl rfl (q)))) ?_
  obtain ⟨T3, X3, e3, st3⟩ := getF X2 hx hZ hown (host := "") (Or.inl (hw _ (List.mem_of_getElem? (i := 28) rfl))) Via.refl e2 FX (g := (mkF m 9 #[.val (.ref x), .val (.ref b), .val (.int (Int32.ofNat i)), .val (.int (0 : Int32))] [(.ref x)])) rfl rfl (hb hby own_d9_9)
  refine own_st (g' := (mkF m 12 #[.val (.ref x), .val (.ref b), .val (.int (Int32.ofNat i)), .val (.int (0 : Int32))] [(.ref t)])) st3 ?_
  refine own_st (g' := (mkF m 17 #[.val (.ref x), .val (.ref b), .val (.int (Int32.ofNat i)), .val (.int (0 : Int32))] [(.int ((Int32.ofNat i) <<< ((0 : Int32) &&& 31))), (.ref b), (.int (0 : Int32)), (.ref t)])) (fun _ q => XS.iconst X3.here hx rfl (hb hby own_d9_12) (XS.aloadN X3.here hx rfl (hb hby own_d9_13) rfl rfl (XS.iloadN X3.here hx rfl (hb hby own_d9_14) rfl (XS.iloadN X3.here hx rfl (hb hby own_d9_15) rfl (XS.ishl X3.here hx rfl (hb hby own_d9_16) rfl (q)))))) ?_
  rw [own_shl0 (Int32.ofNat i)]
  refine own_st (g' := (mkF m 18 #[.val (.ref x), .val (.ref b), .val (.int (Int32.ofNat i)), .val (.int (0 : Int32))] [(.ref x), (.int (Int32.ofNat i)), (.ref b), (.int (0 : Int32)), (.ref t)])) (fun _ q => XS.aloadN X3.here hx rfl (hb hby own_d9_17) rfl rfl (q)) ?_
  obtain ⟨T4, X4, e4, st4⟩ := getF X3 hx hZ hown (host := "") (Or.inl (hw _ (List.mem_of_getElem? (i := 28) rfl))) Via.refl e3 FX (g := (mkF m 18 #[.val (.ref x), .val (.ref b), .val (.int (Int32.ofNat i)), .val (.int (0 : Int32))] [(.ref x), (.int (Int32.ofNat i)), (.ref b), (.int (0 : Int32)), (.ref t)])) rfl rfl (hb hby own_d9_18)
  refine own_st (g' := (mkF m 21 #[.val (.ref x), .val (.ref b), .val (.int (Int32.ofNat i)), .val (.int (0 : Int32))] [(.ref t), (.int (Int32.ofNat i)), (.ref b), (.int (0 : Int32)), (.ref t)])) st4 ?_
  refine own_st (g' := (mkF m 22 #[.val (.ref x), .val (.ref b), .val (.int (Int32.ofNat i)), .val (.int (0 : Int32))] [(.int (Int32.ofNat lm)), (.int (Int32.ofNat i)), (.ref b), (.int (0 : Int32)), (.ref t)])) (own_alen X4 hx hZ e4 VX (hb hby own_d9_21)) ?_
  obtain ⟨T5, h5, L5, X5, e5, N5, K5, V5, st5⟩ := own_acN X4 hx hZ hown (hw _ (List.mem_of_getElem? (i := 100) rfl)) (hw _ (List.mem_of_getElem? (i := 103) rfl)) (hw _ (List.mem_of_getElem? (i := 101) rfl)) (hw _ (List.mem_of_getElem? (i := 102) rfl)) e4 (a := t) (b := b) (n1 := lm) (n2 := cap) (sp := 0) (dp := i) (nn := lm) VX VA lu la (by omega) (by omega) (by omega) (by omega) N0 gb (pc := 22) (Ls := #[.val (.ref x), .val (.ref b), .val (.int (Int32.ofNat i)), .val (.int (0 : Int32))]) (rest := []) (by rw [hml]; rfl) (hb hby own_d9_22) (by decide) (W := 0) (Nat.le_of_eq rfl) (by decide)
  refine own_st (g' := (mkF m 25 #[.val (.ref x), .val (.ref b), .val (.int (Int32.ofNat i)), .val (.int (0 : Int32))] [])) st5 ?_
  refine own_st (g' := (mkF m 43 #[.val (.ref x), .val (.ref b), .val (.int (Int32.ofNat i)), .val (.int (0 : Int32))] [])) (fun _ q => XS.goto X5.here hx rfl (pc0 := 25) (pc' := 43) rfl (hb hby own_d9_25) (by decide) (by decide) (q)) ?_
  exact own_goV X5 hlk hx Bd.returns (hb hby own_d9_43) (by rw [e5]; exact ⟨rfl, N5, ((Keep.refl h0 [b]).trans K5 (allS (Or.inl (List.mem_of_getElem? (i := 0) rfl)) all0)), (own_tk lu ▸ V5)⟩) (by decide) (by decide)
theorem own_ef7 (m : MethodId) (x0 : Addr) (x1 : Int32) (x2 : Addr) : entryFrame m #[(.ref x0), (.int x1), (.ref x2)] 3 = mkF m 0 #[.val (.ref x0), .val (.int x1), .val (.ref x2)] [] := by first | (simp [entryFrame, mkF, argsToLocals, Value.category, maxLocals]; done) | rfl
abbrev own_Q_putS (Z : State) (a b : Addr) (kb : ClassId) (n cap : Nat) (vs : List Value) (i n0 : Nat) (z : Int32) (x t : Addr) (kt : ClassId) (lm : Nat) (us : List Value) (h0 : Heap) : Option Value → Heap → List Loc → Prop := fun v h L => v = none ∧ Fr n0 L ∧ Keep h0 h [b] ∧ Arv Z h b kb .byte (Int32.ofNat cap) (own_cp vs i us) (.int (0 : Int32))
theorem own_d10_0 : decode jdk_68_method_73_code 0 = .ok (.aload_n 0, 1) := by decide +kernel
theorem own_d10_1 : decode jdk_68_method_73_code 1 = .ok (.aload_n 2, 1) := by decide +kernel
theorem own_d10_2 : decode jdk_68_method_73_code 2 = .ok (.invokevirtual 397, 3) := by decide +kernel
theorem own_pd5 : parseMethodDescriptor "(Ljava/lang/String;)V" = some ⟨[(.object "java/lang/String")], none⟩ := by decide +kernel
theorem own_d10_5 : decode jdk_68_method_73_code 5 = .ok (.aload_n 2, 1) := by decide +kernel
theorem own_d10_6 : decode jdk_68_method_73_code 6 = .ok (.aload_n 0, 1) := by decide +kernel
theorem own_d10_7 : decode jdk_68_method_73_code 7 = .ok (.getfield 15, 3) := by decide +kernel
theorem own_d10_10 : decode jdk_68_method_73_code 10 = .ok (.iload_n 1, 1) := by decide +kernel
theorem own_d10_11 : decode jdk_68_method_73_code 11 = .ok (.aload_n 0, 1) := by decide +kernel
theorem own_d10_12 : decode jdk_68_method_73_code 12 = .ok (.getfield 22, 3) := by decide +kernel
theorem own_d10_15 : decode jdk_68_method_73_code 15 = .ok (.invokevirtual 399, 3) := by decide +kernel
theorem own_pd6 : parseMethodDescriptor "([BIB)V" = some ⟨[(.array .byte), .int, .byte], none⟩ := by decide +kernel
theorem own_d10_18 : decode jdk_68_method_73_code 18 = .ok (.return_, 1) := by decide +kernel
set_option maxRecDepth 65536 in
set_option maxHeartbeats 40000000 in
theorem own_rm_putS (l : Launch) (Z : State) (a0 : Array Value) (hw : ∀ d ∈ tables_1, d.before a0 Z = true) (ws : List Jvm.Cond) (a b : Addr) (kb : ClassId) (n cap : Nat) (vs : List Value) (i n0 : Nat) (z : Int32) (x t : Addr) (kt : ClassId) (lm : Nat) (us : List Value) (h0 : Heap) (EA : Exa Z h0 a "java/lang/StringBuilder") (FA : Fld Z h0 a "java/lang/AbstractStringBuilder" "value" "[B" (.ref b)) (CA : Fld Z h0 a "java/lang/AbstractStringBuilder" "coder" "B" (.int (0 : Int32))) (NA : Fld Z h0 a "java/lang/AbstractStringBuilder" "count" "I" (.int (Int32.ofNat n))) (VA : Arv Z h0 b kb .byte (Int32.ofNat cap) vs (.int (0 : Int32))) (la : vs.length = cap) (hn : n ≤ cap) (EX : Exa Z h0 x "java/lang/String") (FX : Fld Z h0 x "java/lang/String" "value" "[B" (.ref t)) (CX : Fld Z h0 x "java/lang/String" "coder" "B" (.int (0 : Int32))) (VX : Arv Z h0 t kt .byte (Int32.ofNat lm) us (.int (0 : Int32))) (lu : us.length = lm) (O : Sta Z Z.heap "java/lang/String" "COMPACT_STRINGS" "Z" (.int z)) (hz : ¬ z = (0 : Int32)) (X00 : Old Z n0 h0) (gb : n0 ≤ b) (hK : cap ≤ 100000) (hi : i + lm ≤ cap) :
    MetFree l (⟨"java/lang/AbstractStringBuilder", "putStringAt", "(ILjava/lang/String;)V"⟩ : MethodName) (head1 (Jvm.Cond.code (⟨"java/lang/AbstractStringBuilder", "putStringAt", "(ILjava/lang/String;)V"⟩ : MethodName) jdk_68_method_73_code 3 none :: ws) ({ frames := 2, cells := 0, slots := 0, locals := 36 } : Room)) (fun aa U => aa = #[(.ref a), (.int (Int32.ofNat i)), (.ref x)] ∧ Z.Warmed39 U.vm ∧ U.heap = h0) (fun _ _ _ _ _ => True) (fun _ U o_ U' => ∃ v L, o_ = .returned v ∧ (own_Q_putS Z a b kb n cap vs i n0 z x t kt lm us h0) v U'.heap L ∧ FrameEnd U o_ U' L ({ frames := 2, cells := 0, slots := 0, locals := 36 } : Room).cells ({ frames := 2, cells := 0, slots := 0, locals := 36 } : Room).slots) := by
  refine MetFree.of_bodySF (plainFor_of_name own_pn2) hisR ?_
  intro p e s m args below meth c s₁ Bd hml0 hP hK
  obtain ⟨rfl, hZ, hh⟩ := hP
  have hx := Bd.exec
  have hby := Bd.bytes
  have hml : c.maxLocals = 3 := hml0
  have hlk : meth.locks = false := BodyLoose.notSynchronized Bd
  have hown : s.vm.findClass "java/lang/AbstractStringBuilder" = some m.cls := findClass_of_methodNamed Bd.named
  have hnm := (name_of_methodNamed Bd.named Bd.method).1
  have X0 : Stand p l e ({ frames := 2, cells := 0, slots := 0, locals := 36 } : Room) s m #[(.ref a), (.int (Int32.ofNat i)), (.ref x)] below meth c s₁ [] 0 0 := Stand.of_body Bd
  have e0 : s₁.heap = h0 := by rw [← hh, Bd.state]; rfl
  rw [own_ef7 m a (Int32.ofNat i) x]
  show own_Go p e below s ({ frames := 2, cells := 0, slots := 0, locals := 36 } : Room).cells ({ frames := 2, cells := 0, slots := 0, locals := 36 } : Room).slots (own_Q_putS Z a b kb n cap vs i n0 z x t kt lm us h0) s₁ (mkF m 0 #[.val (.ref a), .val (.int (Int32.ofNat i)), .val (.ref x)] [])
  have N0 := Fr.nil n0
  refine own_st (g' := (mkF m 2 #[.val (.ref a), .val (.int (Int32.ofNat i)), .val (.ref x)] [(.ref x), (.ref a)])) (fun _ q => XS.aloadN X0.here hx rfl (hb hby own_d10_0) rfl rfl (XS.aloadN X0.here hx rfl (hb hby own_d10_1) rfl rfl (q))) ?_
  have K1 : own_Bk l ({ frames := 2, cells := 0, slots := 0, locals := 36 } : Room) p e below s #[(.ref a), (.int (Int32.ofNat i)), (.ref x)] (⟨"java/lang/AbstractStringBuilder", "inflateIfNeededFor", "(Ljava/lang/String;)V"⟩ : MethodName) 0 h0 #[(.ref a), (.ref x)] 0 0 (fun v h L => v = none ∧ L = [] ∧ h = h0) := backOf (s := s) (R := ({ frames := 2, cells := 0, slots := 0, locals := 36 } : Room)) (W := 0) (Q := (fun v h L => v = none ∧ L = [] ∧ h = h0)) (rm := ({ frames := 1, cells := 0, slots := 0, locals := 13 } : Room)) (own_rm_infl l Z a0 hw [] a b kb n cap vs x t kt lm us z n0  h0 EA FA CA NA VA la (by omega) EX FX CX VX lu O hz X00 ) hZ (hw _ (List.mem_of_getElem? (i := 93) rfl)) (hw _ (List.mem_of_getElem? (i := 46) rfl)) (by decide) (by decide)
  obtain ⟨T2, X2, e2, st2⟩ := own_pure (own_cP X0 hx hZ hown (hw _ (List.mem_of_getElem? (i := 89) rfl)) (hw _ (List.mem_of_getElem? (i := 90) rfl)) (hw _ (List.mem_of_getElem? (i := 92) rfl)) (hw _ (List.mem_of_getElem? (i := 93) rfl)) (by decide) e0 (h := h0) (b := a) EA (argsL := [(.ref x)]) (rest := []) K1 (pc := 2) (Ls := #[.val (.ref a), .val (.int (Int32.ofNat i)), .val (.ref x)]) (by rw [hml]; rfl) (lenOf own_pd5 rfl) rfl (Nat.le_of_eq rfl) (hb hby own_d10_2) (by decide) (by decide))
  refine own_st (g' := (mkF m 5 #[.val (.ref a), .val (.int (Int32.ofNat i)), .val (.ref x)] [])) st2 ?_
  refine own_st (g' := (mkF m 7 #[.val (.ref a), .val (.int (Int32.ofNat i)), .val (.ref x)] [(.ref a), (.ref x)])) (fun _ q => XS.aloadN X2.here hx rfl (hb hby own_d10_5) rfl rfl (XS.aloadN X2.here hx rfl (hb hby own_d10_6) rfl rfl (q))) ?_
  obtain ⟨T3, X3, e3, st3⟩ := getF X2 hx hZ hown (host := "") (Or.inl (hw _ (List.mem_of_getElem? (i := 50) rfl))) Via.refl e2 FA (g := (mkF m 7 #[.val (.ref a), .val (.int (Int32.ofNat i)), .val (.ref x)] [(.ref a), (.ref x)])) rfl rfl (hb hby own_d10_7)
  refine own_st (g' := (mkF m 10 #[.val (.ref a), .val (.int (Int32.ofNat i)), .val (.ref x)] [(.ref b), (.ref x)])) st3 ?_
  refine own_st (g' := (mkF m 12 #[.val (.ref a), .val (.int (Int32.ofNat i)), .val (.ref x)] [(.ref a), (.int (Int32.ofNat i)), (.ref b), (.ref x)])) (fun _ q => XS.iloadN X3.here hx rfl (hb hby own_d10_10) rfl (XS.aloadN X3.here hx rfl (hb hby own_d10_11) rfl rfl (q))) ?_
  obtain ⟨T4, X4, e4, st4⟩ := getF X3 hx hZ hown (host := "") (Or.inl (hw _ (List.mem_of_getElem? (i := 52) rfl))) Via.refl e3 CA (g := (mkF m 12 #[.val (.ref a), .val (.int (Int32.ofNat i)), .val (.ref x)] [(.ref a), (.int (Int32.ofNat i)), (.ref b), (.ref x)])) rfl rfl (hb hby own_d10_12)
  refine own_st (g' := (mkF m 15 #[.val (.ref a), .val (.int (Int32.ofNat i)), .val (.ref x)] [(.int (0 : Int32)), (.int (Int32.ofNat i)), (.ref b), (.ref x)])) st4 ?_
  have K5 : own_Bk l ({ frames := 2, cells := 0, slots := 0, locals := 36 } : Room) p e below s #[(.ref a), (.int (Int32.ofNat i)), (.ref x)] (⟨"java/lang/String", "getBytes", "([BIB)V"⟩ : MethodName) 0 h0 #[(.ref x), (.ref b), (.int (Int32.ofNat i)), (.int (0 : Int32))] 0 0 (own_Q_getB Z b kb cap (i) n0 vs z x t kt lm us h0) := backOf (s := s) (R := ({ frames := 2, cells := 0, slots := 0, locals := 36 } : Room)) (W := 0) (Q := (own_Q_getB Z b kb cap (i) n0 vs z x t kt lm us h0)) (rm := ({ frames := 1, cells := 0, slots := 0, locals := 21 } : Room)) (own_rm_getB l Z a0 hw [] b kb cap (i) n0 vs z x t kt lm us h0 EX FX CX VX lu VA la O hz X00 gb (by omega) (by omega)) hZ (hw _ (List.mem_of_getElem? (i := 99) rfl)) (hw _ (List.mem_of_getElem? (i := 2) rfl)) (by decide) (by decide)
  obtain ⟨_, L6, T6, X6, ⟨rfl, N6q, K6, V6⟩, st6⟩ := own_cV X4 hx hZ hown (hw _ (List.mem_of_getElem? (i := 95) rfl)) (hw _ (List.mem_of_getElem? (i := 96) rfl)) (notFace_of_selects (args := #[]) (mvT hZ (hw _ (List.mem_of_getElem? (i := 98) rfl)))) (hw _ (List.mem_of_getElem? (i := 98) rfl)) (hw _ (List.mem_of_getElem? (i := 97) rfl)) (by decide) e4 (h := h0) (b := x) EX (argsL := [(.ref b), (.int (Int32.ofNat i)), (.int (0 : Int32))]) (rest := []) K5 (pc := 15) (Ls := #[.val (.ref a), .val (.int (Int32.ofNat i)), .val (.ref x)]) (by rw [hml]; rfl) (lenOf own_pd6 rfl) rfl (Nat.le_of_eq rfl) (hb hby own_d10_15) (by decide) (by decide)
  have N6 := Fr.app N0 N6q
  refine own_st (g' := (mkF m 18 #[.val (.ref a), .val (.int (Int32.ofNat i)), .val (.ref x)] [])) st6 ?_
  exact own_goV X6 hlk hx Bd.returns (hb hby own_d10_18) ⟨rfl, N6, ((Keep.refl h0 [b]).trans K6 (allS (Or.inl (List.mem_of_getElem? (i := 0) rfl)) all0)), V6⟩ (by decide) (by decide)
theorem own_ef8 (m : MethodId) (x0 : Addr) (x1 : Addr) : entryFrame m #[(.ref x0), (.ref x1)] 3 = mkF m 0 #[.val (.ref x0), .val (.ref x1), .unset] [] := by first | (simp [entryFrame, mkF, argsToLocals, Value.category, maxLocals]; done) | rfl
abbrev own_Q_apAF (Z : State) (a b : Addr) (kb : ClassId) (n cap : Nat) (vs : List Value) (n0 : Nat) (z : Int32) (x t : Addr) (kt : ClassId) (lm : Nat) (us : List Value) (h0 : Heap) : Option Value → Heap → List Loc → Prop := fun v h L => v = some (.ref a) ∧ Fr n0 L ∧ Keep h0 h [a, b] ∧ Exa Z h a "java/lang/StringBuilder" ∧ Fld Z h a "java/lang/AbstractStringBuilder" "value" "[B" (.ref b) ∧ Fld Z h a "java/lang/AbstractStringBuilder" "coder" "B" (.int (0 : Int32)) ∧ Fld Z h a "java/lang/AbstractStringBuilder" "count" "I" (.int (Int32.ofNat (n + lm))) ∧ ∃ us', Arv Z h b kb .byte (Int32.ofNat cap) us' (.int (0 : Int32)) ∧ us'.length = cap ∧ us'.take (n + lm) = vs.take n ++ us
theorem own_d11_0 : decode jdk_68_method_22_code 0 = .ok (.aload_n 1, 1) := by decide +kernel
theorem own_d11_1 : decode jdk_68_method_22_code 1 = .ok (.ifnonnull 8, 3) := by decide +kernel
theorem own_d11_9 : decode jdk_68_method_22_code 9 = .ok (.aload_n 1, 1) := by decide +kernel
theorem own_d11_10 : decode jdk_68_method_22_code 10 = .ok (.invokevirtual 32, 3) := by decide +kernel
theorem own_pd7 : parseMethodDescriptor "()I" = some ⟨[], some .int⟩ := by decide +kernel
theorem own_d11_13 : decode jdk_68_method_22_code 13 = .ok (.istore_n 2, 1) := by decide +kernel
theorem own_d11_14 : decode jdk_68_method_22_code 14 = .ok (.aload_n 0, 1) := by decide +kernel
theorem own_d11_15 : decode jdk_68_method_22_code 15 = .ok (.aload_n 0, 1) := by decide +kernel
theorem own_d11_16 : decode jdk_68_method_22_code 16 = .ok (.getfield 79, 3) := by decide +kernel
theorem own_d11_19 : decode jdk_68_method_22_code 19 = .ok (.iload_n 2, 1) := by decide +kernel
theorem own_d11_20 : decode jdk_68_method_22_code 20 = .ok (.iadd, 1) := by decide +kernel
theorem own_d11_21 : decode jdk_68_method_22_code 21 = .ok (.invokevirtual 100, 3) := by decide +kernel
theorem own_pd8 : parseMethodDescriptor "(I)V" = some ⟨[.int], none⟩ := by decide +kernel
theorem own_d11_24 : decode jdk_68_method_22_code 24 = .ok (.aload_n 0, 1) := by decide +kernel
theorem own_d11_25 : decode jdk_68_method_22_code 25 = .ok (.aload_n 0, 1) := by decide +kernel
theorem own_d11_26 : decode jdk_68_method_22_code 26 = .ok (.getfield 79, 3) := by decide +kernel
theorem own_d11_29 : decode jdk_68_method_22_code 29 = .ok (.aload_n 1, 1) := by decide +kernel
theorem own_d11_30 : decode jdk_68_method_22_code 30 = .ok (.invokevirtual 208, 3) := by decide +kernel
theorem own_pd9 : parseMethodDescriptor "(ILjava/lang/String;)V" = some ⟨[.int, (.object "java/lang/String")], none⟩ := by decide +kernel
theorem own_d11_33 : decode jdk_68_method_22_code 33 = .ok (.aload_n 0, 1) := by decide +kernel
theorem own_d11_34 : decode jdk_68_method_22_code 34 = .ok (.dup, 1) := by decide +kernel
theorem own_d11_35 : decode jdk_68_method_22_code 35 = .ok (.getfield 79, 3) := by decide +kernel
theorem own_d11_38 : decode jdk_68_method_22_code 38 = .ok (.iload_n 2, 1) := by decide +kernel
theorem own_d11_39 : decode jdk_68_method_22_code 39 = .ok (.iadd, 1) := by decide +kernel
theorem own_d11_40 : decode jdk_68_method_22_code 40 = .ok (.putfield 79, 3) := by decide +kernel
theorem own_d11_43 : decode jdk_68_method_22_code 43 = .ok (.aload_n 0, 1) := by decide +kernel
theorem own_d11_44 : decode jdk_68_method_22_code 44 = .ok (.areturn, 1) := by decide +kernel
set_option maxRecDepth 65536 in
set_option maxHeartbeats 40000000 in
theorem own_rm_apAF (l : Launch) (Z : State) (a0 : Array Value) (hw : ∀ d ∈ tables_1, d.before a0 Z = true) (ws : List Jvm.Cond) (a b : Addr) (kb : ClassId) (n cap : Nat) (vs : List Value) (n0 : Nat) (z : Int32) (x t : Addr) (kt : ClassId) (lm : Nat) (us : List Value) (h0 : Heap) (EA : Exa Z h0 a "java/lang/StringBuilder") (FA : Fld Z h0 a "java/lang/AbstractStringBuilder" "value" "[B" (.ref b)) (CA : Fld Z h0 a "java/lang/AbstractStringBuilder" "coder" "B" (.int (0 : Int32))) (NA : Fld Z h0 a "java/lang/AbstractStringBuilder" "count" "I" (.int (Int32.ofNat n))) (VA : Arv Z h0 b kb .byte (Int32.ofNat cap) vs (.int (0 : Int32))) (la : vs.length = cap) (hn : n ≤ cap) (EX : Exa Z h0 x "java/lang/String") (FX : Fld Z h0 x "java/lang/String" "value" "[B" (.ref t)) (CX : Fld Z h0 x "java/lang/String" "coder" "B" (.int (0 : Int32))) (VX : Arv Z h0 t kt .byte (Int32.ofNat lm) us (.int (0 : Int32))) (lu : us.length = lm) (O : Sta Z Z.heap "java/lang/String" "COMPACT_STRINGS" "Z" (.int z)) (hz : ¬ z = (0 : Int32)) (X00 : Old Z n0 h0) (Z0 : n0 ≤ h0.size) (ga : n0 ≤ a) (gb : n0 ≤ b) (hK : cap ≤ 100000) (hq : n + lm ≤ cap) :
    MetFree l (⟨"java/lang/AbstractStringBuilder", "append", "(Ljava/lang/String;)Ljava/lang/AbstractStringBuilder;"⟩ : MethodName) (head1 (Jvm.Cond.code (⟨"java/lang/AbstractStringBuilder", "append", "(Ljava/lang/String;)Ljava/lang/AbstractStringBuilder;"⟩ : MethodName) jdk_68_method_22_code 3 (some (.object "java/lang/AbstractStringBuilder")) :: ws) ({ frames := 3, cells := 0, slots := 0, locals := 50 } : Room)) (fun aa U => aa = #[(.ref a), (.ref x)] ∧ Z.Warmed39 U.vm ∧ U.heap = h0) (fun _ _ _ _ _ => True) (fun _ U o_ U' => ∃ v L, o_ = .returned v ∧ (own_Q_apAF Z a b kb n cap vs n0 z x t kt lm us h0) v U'.heap L ∧ FrameEnd U o_ U' L ({ frames := 3, cells := 0, slots := 0, locals := 50 } : Room).cells ({ frames := 3, cells := 0, slots := 0, locals := 50 } : Room).slots) := by
  refine MetFree.of_bodySF (plainFor_of_name own_pn2) hisR ?_
  intro p e s m args below meth c s₁ Bd hml0 hP hK
  obtain ⟨rfl, hZ, hh⟩ := hP
  have hx := Bd.exec
  have hby := Bd.bytes
  have hml : c.maxLocals = 3 := hml0
  have hlk : meth.locks = false := BodyLoose.notSynchronized Bd
  have hown : s.vm.findClass "java/lang/AbstractStringBuilder" = some m.cls := findClass_of_methodNamed Bd.named
  have hnm := (name_of_methodNamed Bd.named Bd.method).1
  have X0 : Stand p l e ({ frames := 3, cells := 0, slots := 0, locals := 50 } : Room) s m #[(.ref a), (.ref x)] below meth c s₁ [] 0 0 := Stand.of_body Bd
  have e0 : s₁.heap = h0 := by rw [← hh, Bd.state]; rfl
  rw [own_ef8 m a x]
  show own_Go p e below s ({ frames := 3, cells := 0, slots := 0, locals := 50 } : Room).cells ({ frames := 3, cells := 0, slots := 0, locals := 50 } : Room).slots (own_Q_apAF Z a b kb n cap vs n0 z x t kt lm us h0) s₁ (mkF m 0 #[.val (.ref a), .val (.ref x), .unset] [])
  have N0 := Fr.nil n0
  have nab := Exa.neArv EA VA (hw _ (List.mem_of_getElem? (i := 37) rfl))
  have nat := Exa.neArv EA VX (hw _ (List.mem_of_getElem? (i := 37) rfl))
  have nxa := ne_exa EX EA (by decide)
  have nxb := Exa.neArv EX VA (hw _ (List.mem_of_getElem? (i := 1) rfl))
  refine own_st (g' := (mkF m 10 #[.val (.ref a), .val (.ref x), .unset] [(.ref x)])) (fun _ q => XS.aloadN X0.here hx rfl (hb hby own_d11_0) rfl rfl (XS.ifnonnullYes X0.here hx rfl (pc0 := 1) (pc' := 9) rfl (hb hby own_d11_1) rfl (by decide) (by decide) (XS.aloadN X0.here hx rfl (hb hby own_d11_9) rfl rfl (q)))) ?_
  have K1 : own_Bk l ({ frames := 3, cells := 0, slots := 0, locals := 50 } : Room) p e below s #[(.ref a), (.ref x)] (⟨"java/lang/String", "length", "()I"⟩ : MethodName) 0 h0 #[(.ref x)] 0 0 (fun v h L => v = some (.int (Int32.ofNat lm)) ∧ L = [] ∧ h = h0) := backOf (s := s) (R := ({ frames := 3, cells := 0, slots := 0, locals := 50 } : Room)) (W := 0) (Q := (fun v h L => v = some (.int (Int32.ofNat lm)) ∧ L = [] ∧ h = h0)) (rm := ({ frames := 1, cells := 0, slots := 0, locals := 13 } : Room)) (own_rm_slen l Z a0 hw [] x t kt lm us z n0  h0 EX FX CX VX lu O hz X00 ) hZ (hw _ (List.mem_of_getElem? (i := 71) rfl)) (hw _ (List.mem_of_getElem? (i := 2) rfl)) (by decide) (by decide)
  obtain ⟨T2, X2, e2, st2⟩ := own_pure (own_cV X0 hx hZ hown (hw _ (List.mem_of_getElem? (i := 67) rfl)) (hw _ (List.mem_of_getElem? (i := 68) rfl)) (notFace_of_selects (args := #[]) (mvT hZ (hw _ (List.mem_of_getElem? (i := 70) rfl)))) (hw _ (List.mem_of_getElem? (i := 70) rfl)) (hw _ (List.mem_of_getElem? (i := 69) rfl)) (by decide) e0 (h := h0) (b := x) EX (argsL := []) (rest := []) K1 (pc := 10) (Ls := #[.val (.ref a), .val (.ref x), .unset]) (by rw [hml]; rfl) (lenOf own_pd7 rfl) rfl (Nat.le_of_eq rfl) (hb hby own_d11_10) (by decide) (by decide))
  refine own_st (g' := (mkF m 13 #[.val (.ref a), .val (.ref x), .unset] [(.int (Int32.ofNat lm))])) st2 ?_
  refine own_st (g' := (mkF m 16 #[.val (.ref a), .val (.ref x), .val (.int (Int32.ofNat lm))] [(.ref a), (.ref a)])) (fun _ q => XS.istoreN X2.here hx rfl (hb hby own_d11_13) rfl (l' := #[.val (.ref a), .val (.ref x), .val (.int (Int32.ofNat lm))]) rfl (XS.aloadN X2.here hx rfl (hb hby own_d11_14) rfl rfl (XS.aloadN X2.here hx rfl (hb hby own_d11_15) rfl rfl (q)))) ?_
  obtain ⟨T3, X3, e3, st3⟩ := getF X2 hx hZ hown (host := "") (Or.inl (hw _ (List.mem_of_getElem? (i := 77) rfl))) Via.refl e2 NA (g := (mkF m 16 #[.val (.ref a), .val (.ref x), .val (.int (Int32.ofNat lm))] [(.ref a), (.ref a)])) rfl rfl (hb hby own_d11_16)
  refine own_st (g' := (mkF m 19 #[.val (.ref a), .val (.ref x), .val (.int (Int32.ofNat lm))] [(.int (Int32.ofNat n)), (.ref a)])) st3 ?_
  refine own_st (g' := (mkF m 21 #[.val (.ref a), .val (.ref x), .val (.int (Int32.ofNat lm))] [(.int ((Int32.ofNat n) + (Int32.ofNat lm))), (.ref a)])) (fun _ q => XS.iloadN X3.here hx rfl (hb hby own_d11_19) rfl (XS.iadd X3.here hx rfl (hb hby own_d11_20) rfl (q))) ?_
  rw [show ((Int32.ofNat n) + (Int32.ofNat lm)) = (Int32.ofNat (n + lm)) from own_addN _ _]
  have K4 : own_Bk l ({ frames := 3, cells := 0, slots := 0, locals := 50 } : Room) p e below s #[(.ref a), (.ref x)] (⟨"java/lang/AbstractStringBuilder", "ensureCapacityInternal", "(I)V"⟩ : MethodName) 0 h0 #[(.ref a), (.int (Int32.ofNat (n + lm)))] 0 0 (fun v h L => v = none ∧ L = [] ∧ h = h0) := backOf (s := s) (R := ({ frames := 3, cells := 0, slots := 0, locals := 50 } : Room)) (W := 0) (Q := (fun v h L => v = none ∧ L = [] ∧ h = h0)) (rm := ({ frames := 0, cells := 0, slots := 0, locals := 0 } : Room)) (own_rm_ensF l Z a0 hw [] a b kb n cap vs ((n + lm))  h0 EA FA CA NA VA la (by omega) (by omega) (by omega) ) hZ (hw _ (List.mem_of_getElem? (i := 83) rfl)) (hw _ (List.mem_of_getElem? (i := 46) rfl)) (by decide) (by decide)
  obtain ⟨T5, X5, e5, st5⟩ := own_pure (own_cP X3 hx hZ hown (hw _ (List.mem_of_getElem? (i := 79) rfl)) (hw _ (List.mem_of_getElem? (i := 80) rfl)) (hw _ (List.mem_of_getElem? (i := 82) rfl)) (hw _ (List.mem_of_getElem? (i := 83) rfl)) (by decide) e3 (h := h0) (b := a) EA (argsL := [(.int (Int32.ofNat (n + lm)))]) (rest := []) K4 (pc := 21) (Ls := #[.val (.ref a), .val (.ref x), .val (.int (Int32.ofNat lm))]) (by rw [hml]; rfl) (lenOf own_pd8 rfl) rfl (Nat.le_of_eq rfl) (hb hby own_d11_21) (by decide) (by decide))
  refine own_st (g' := (mkF m 24 #[.val (.ref a), .val (.ref x), .val (.int (Int32.ofNat lm))] [])) st5 ?_
  refine own_st (g' := (mkF m 26 #[.val (.ref a), .val (.ref x), .val (.int (Int32.ofNat lm))] [(.ref a), (.ref a)])) (fun _ q => XS.aloadN X5.here hx rfl (hb hby own_d11_24) rfl rfl (XS.aloadN X5.here hx rfl (hb hby own_d11_25) rfl rfl (q))) ?_
  obtain ⟨T6, X6, e6, st6⟩ := getF X5 hx hZ hown (host := "") (Or.inl (hw _ (List.mem_of_getElem? (i := 77) rfl))) Via.refl e5 NA (g := (mkF m 26 #[.val (.ref a), .val (.ref x), .val (.int (Int32.ofNat lm))] [(.ref a), (.ref a)])) rfl rfl (hb hby own_d11_26)
  refine own_st (g' := (mkF m 29 #[.val (.ref a), .val (.ref x), .val (.int (Int32.ofNat lm))] [(.int (Int32.ofNat n)), (.ref a)])) st6 ?_
  refine own_st (g' := (mkF m 30 #[.val (.ref a), .val (.ref x), .val (.int (Int32.ofNat lm))] [(.ref x), (.int (Int32.ofNat n)), (.ref a)])) (fun _ q => XS.aloadN X6.here hx rfl (hb hby own_d11_29) rfl rfl (q)) ?_
  have K7 : own_Bk l ({ frames := 3, cells := 0, slots := 0, locals := 50 } : Room) p e below s #[(.ref a), (.ref x)] (⟨"java/lang/AbstractStringBuilder", "putStringAt", "(ILjava/lang/String;)V"⟩ : MethodName) 0 h0 #[(.ref a), (.int (Int32.ofNat n)), (.ref x)] 0 0 (own_Q_putS Z a b kb n cap vs (n) n0 z x t kt lm us h0) := backOf (s := s) (R := ({ frames := 3, cells := 0, slots := 0, locals := 50 } : Room)) (W := 0) (Q := (own_Q_putS Z a b kb n cap vs (n) n0 z x t kt lm us h0)) (rm := ({ frames := 2, cells := 0, slots := 0, locals := 36 } : Room)) (own_rm_putS l Z a0 hw [] a b kb n cap vs (n) n0 z x t kt lm us h0 EA FA CA NA VA la (by omega) EX FX CX VX lu O hz X00 gb (by omega) (by omega)) hZ (hw _ (List.mem_of_getElem? (i := 88) rfl)) (hw _ (List.mem_of_getElem? (i := 46) rfl)) (by decide) (by decide)
  obtain ⟨_, L8, T8, X8, ⟨rfl, N8q, K8, V8⟩, st8⟩ := own_cP X6 hx hZ hown (hw _ (List.mem_of_getElem? (i := 84) rfl)) (hw _ (List.mem_of_getElem? (i := 85) rfl)) (hw _ (List.mem_of_getElem? (i := 87) rfl)) (hw _ (List.mem_of_getElem? (i := 88) rfl)) (by decide) e6 (h := h0) (b := a) EA (argsL := [(.int (Int32.ofNat n)), (.ref x)]) (rest := []) K7 (pc := 30) (Ls := #[.val (.ref a), .val (.ref x), .val (.int (Int32.ofNat lm))]) (by rw [hml]; rfl) (lenOf own_pd9 rfl) rfl (Nat.le_of_eq rfl) (hb hby own_d11_30) (by decide) (by decide)
  have N8 := Fr.app N0 N8q
  refine own_st (g' := (mkF m 33 #[.val (.ref a), .val (.ref x), .val (.int (Int32.ofNat lm))] [])) st8 ?_
  refine own_st (g' := (mkF m 35 #[.val (.ref a), .val (.ref x), .val (.int (Int32.ofNat lm))] [(.ref a), (.ref a)])) (fun _ q => XS.aloadN X8.here hx rfl (hb hby own_d11_33) rfl rfl (XS.dup X8.here hx rfl (hb hby own_d11_34) rfl rfl (q))) ?_
  obtain ⟨T9, X9, e9, st9⟩ := getF X8 hx hZ hown (host := "") (Or.inl (hw _ (List.mem_of_getElem? (i := 77) rfl))) Via.refl rfl (NA.keep K8 (ninS nab nin0)) (g := (mkF m 35 #[.val (.ref a), .val (.ref x), .val (.int (Int32.ofNat lm))] [(.ref a), (.ref a)])) rfl rfl (hb hby own_d11_35)
  refine own_st (g' := (mkF m 38 #[.val (.ref a), .val (.ref x), .val (.int (Int32.ofNat lm))] [(.int (Int32.ofNat n)), (.ref a)])) st9 ?_
  refine own_st (g' := (mkF m 40 #[.val (.ref a), .val (.ref x), .val (.int (Int32.ofNat lm))] [(.int ((Int32.ofNat n) + (Int32.ofNat lm))), (.ref a)])) (fun _ q => XS.iloadN X9.here hx rfl (hb hby own_d11_38) rfl (XS.iadd X9.here hx rfl (hb hby own_d11_39) rfl (q))) ?_
  rw [show ((Int32.ofNat n) + (Int32.ofNat lm)) = (Int32.ofNat (n + lm)) from own_addN _ _]
  obtain ⟨T10, h10, X10, e10, W10, st10⟩ := putF X9 hx hZ hown (host := "") (Or.inl (hw _ (List.mem_of_getElem? (i := 77) rfl))) Via.refl e9 (NA.keep K8 (ninS nab nin0)) (EA.keep K8) (Or.inl (hw _ (List.mem_of_getElem? (i := 78) rfl))) (hw _ (List.mem_of_getElem? (i := 37) rfl)) (ty := .int) (by decide) rfl rfl (g := (mkF m 40 #[.val (.ref a), .val (.ref x), .val (.int (Int32.ofNat lm))] [(.int (Int32.ofNat (n + lm))), (.ref a)])) rfl rfl (hb hby own_d11_40)
  have F10 : Fld Z h10 a "java/lang/AbstractStringBuilder" "count" "I" (.int (Int32.ofNat (n + lm))) := (NA.keep K8 (ninS nab nin0)).same W10
  have N10 := Fr.snoc X10 N8 ga
  refine own_st (g' := (mkF m 43 #[.val (.ref a), .val (.ref x), .val (.int (Int32.ofNat lm))] [])) st10 ?_
  refine own_st (g' := (mkF m 44 #[.val (.ref a), .val (.ref x), .val (.int (Int32.ofNat lm))] [(.ref a)])) (fun _ q => XS.aloadN X10.here hx rfl (hb hby own_d11_43) rfl rfl (q)) ?_
  exact own_goR X10 hlk hx (t := (.object "java/lang/AbstractStringBuilder")) rfl rfl Bd.returns (hb hby own_d11_44) (by rw [e10]; exact ⟨rfl, N10, (((Keep.refl h0 [a, b]).trans K8 (allS (Or.inl (List.mem_of_getElem? (i := 1) rfl)) all0)).wr W10 (Or.inl (List.mem_of_getElem? (i := 0) rfl))), ((EA.keep K8).wr W10), ((FA.keep K8 (ninS nab nin0)).other W10 (Or.inr (slot_ne (Or.inl (hw _ (List.mem_of_getElem? (i := 51) rfl))) (Or.inl (hw _ (List.mem_of_getElem? (i := 78) rfl))) (by decide) (t := (.array .byte)) (by decide) (t' := .int) (by decide)))), ((CA.keep K8 (ninS nab nin0)).other W10 (Or.inr (slot_ne (Or.inl (hw _ (List.mem_of_getElem? (i := 53) rfl))) (Or.inl (hw _ (List.mem_of_getElem? (i := 78) rfl))) (by decide) (t := .byte) (by decide) (t' := .int) (by decide)))), F10, _, (V8.other W10 (Ne.symm nab)), ((own_cp_len (by omega)).trans la), (own_cpT lu la hn)⟩) (by decide) (by decide)
abbrev own_Q_apAG (Z : State) (a b : Addr) (kb : ClassId) (n cap : Nat) (vs : List Value) (n0 : Nat) (z : Int32) (x t : Addr) (kt : ClassId) (lm : Nat) (us : List Value) (h0 : Heap) : Option Value → Heap → List Loc → Prop := fun v h L => v = some (.ref a) ∧ Fr n0 L ∧ Keep h0 h [a] ∧ Exa Z h a "java/lang/StringBuilder" ∧ ∃ b' kb' us', h0.size ≤ b' ∧ Fld Z h a "java/lang/AbstractStringBuilder" "value" "[B" (.ref b') ∧ Fld Z h a "java/lang/AbstractStringBuilder" "coder" "B" (.int (0 : Int32)) ∧ Fld Z h a "java/lang/AbstractStringBuilder" "count" "I" (.int (Int32.ofNat (n + lm))) ∧ Arv Z h b' kb' .byte (Int32.ofNat (cap + max (n + lm - cap) (cap + 2))) us' (.int (0 : Int32)) ∧ us'.length = (cap + max (n + lm - cap) (cap + 2)) ∧ us'.take (n + lm) = vs.take n ++ us
set_option maxRecDepth 65536 in
set_option maxHeartbeats 40000000 in
theorem own_rm_apAG (l : Launch) (Z : State) (a0 : Array Value) (hw : ∀ d ∈ tables_1, d.before a0 Z = true) (ws : List Jvm.Cond) (a b : Addr) (kb : ClassId) (n cap : Nat) (vs : List Value) (n0 : Nat) (z : Int32) (x t : Addr) (kt : ClassId) (lm : Nat) (us : List Value) (h0 : Heap) (EA : Exa Z h0 a "java/lang/StringBuilder") (FA : Fld Z h0 a "java/lang/AbstractStringBuilder" "value" "[B" (.ref b)) (CA : Fld Z h0 a "java/lang/AbstractStringBuilder" "coder" "B" (.int (0 : Int32))) (NA : Fld Z h0 a "java/lang/AbstractStringBuilder" "count" "I" (.int (Int32.ofNat n))) (VA : Arv Z h0 b kb .byte (Int32.ofNat cap) vs (.int (0 : Int32))) (la : vs.length = cap) (hn : n ≤ cap) (EX : Exa Z h0 x "java/lang/String") (FX : Fld Z h0 x "java/lang/String" "value" "[B" (.ref t)) (CX : Fld Z h0 x "java/lang/String" "coder" "B" (.int (0 : Int32))) (VX : Arv Z h0 t kt .byte (Int32.ofNat lm) us (.int (0 : Int32))) (lu : us.length = lm) (O : Sta Z Z.heap "java/lang/String" "COMPACT_STRINGS" "Z" (.int z)) (hz : ¬ z = (0 : Int32)) (X00 : Old Z n0 h0) (Z0 : n0 ≤ h0.size) (ga : n0 ≤ a) (hK : cap ≤ 100000) (hq : cap < n + lm) (hq2 : n + lm ≤ 100000) (hq3 : (cap + max (n + lm - cap) (cap + 2)) ≤ 128) :
    MetFree l (⟨"java/lang/AbstractStringBuilder", "append", "(Ljava/lang/String;)Ljava/lang/AbstractStringBuilder;"⟩ : MethodName) (head1 (Jvm.Cond.code (⟨"java/lang/AbstractStringBuilder", "append", "(Ljava/lang/String;)Ljava/lang/AbstractStringBuilder;"⟩ : MethodName) jdk_68_method_22_code 3 (some (.object "java/lang/AbstractStringBuilder")) :: ws) ({ frames := 4, cells := 1, slots := 128, locals := 62 } : Room)) (fun aa U => aa = #[(.ref a), (.ref x)] ∧ Z.Warmed39 U.vm ∧ U.heap = h0) (fun _ _ _ _ _ => True) (fun _ U o_ U' => ∃ v L, o_ = .returned v ∧ (own_Q_apAG Z a b kb n cap vs n0 z x t kt lm us h0) v U'.heap L ∧ FrameEnd U o_ U' L ({ frames := 4, cells := 1, slots := 128, locals := 62 } : Room).cells ({ frames := 4, cells := 1, slots := 128, locals := 62 } : Room).slots) := by
  refine MetFree.of_bodySF (plainFor_of_name own_pn2) hisR ?_
  intro p e s m args below meth c s₁ Bd hml0 hP hK
  obtain ⟨rfl, hZ, hh⟩ := hP
  have hx := Bd.exec
  have hby := Bd.bytes
  have hml : c.maxLocals = 3 := hml0
  have hlk : meth.locks = false := BodyLoose.notSynchronized Bd
  have hown : s.vm.findClass "java/lang/AbstractStringBuilder" = some m.cls := findClass_of_methodNamed Bd.named
  have hnm := (name_of_methodNamed Bd.named Bd.method).1
  have X0 : Stand p l e ({ frames := 4, cells := 1, slots := 128, locals := 62 } : Room) s m #[(.ref a), (.ref x)] below meth c s₁ [] 0 0 := Stand.of_body Bd
  have e0 : s₁.heap = h0 := by rw [← hh, Bd.state]; rfl
  rw [own_ef8 m a x]
  show own_Go p e below s ({ frames := 4, cells := 1, slots := 128, locals := 62 } : Room).cells ({ frames := 4, cells := 1, slots := 128, locals := 62 } : Room).slots (own_Q_apAG Z a b kb n cap vs n0 z x t kt lm us h0) s₁ (mkF m 0 #[.val (.ref a), .val (.ref x), .unset] [])
  have N0 := Fr.nil n0
  have nab := Exa.neArv EA VA (hw _ (List.mem_of_getElem? (i := 37) rfl))
  have nat := Exa.neArv EA VX (hw _ (List.mem_of_getElem? (i := 37) rfl))
  have nxa := ne_exa EX EA (by decide)
  have nxb := Exa.neArv EX VA (hw _ (List.mem_of_getElem? (i := 1) rfl))
  refine own_st (g' := (mkF m 10 #[.val (.ref a), .val (.ref x), .unset] [(.ref x)])) (fun _ q => XS.aloadN X0.here hx rfl (hb hby own_d11_0) rfl rfl (XS.ifnonnullYes X0.here hx rfl (pc0 := 1) (pc' := 9) rfl (hb hby own_d11_1) rfl (by decide) (by decide) (XS.aloadN X0.here hx rfl (hb hby own_d11_9) rfl rfl (q)))) ?_
  have K1 : own_Bk l ({ frames := 4, cells := 1, slots := 128, locals := 62 } : Room) p e below s #[(.ref a), (.ref x)] (⟨"java/lang/String", "length", "()I"⟩ : MethodName) 0 h0 #[(.ref x)] 0 0 (fun v h L => v = some (.int (Int32.ofNat lm)) ∧ L = [] ∧ h = h0) := backOf (s := s) (R := ({ frames := 4, cells := 1, slots := 128, locals := 62 } : Room)) (W := 0) (Q := (fun v h L => v = some (.int (Int32.ofNat lm)) ∧ L = [] ∧ h = h0)) (rm := ({ frames := 1, cells := 0, slots := 0, locals := 13 } : Room)) (own_rm_slen l Z a0 hw [] x t kt lm us z n0  h0 EX FX CX VX lu O hz X00 ) hZ (hw _ (List.mem_of_getElem? (i := 71) rfl)) (hw _ (List.mem_of_getElem? (i := 2) rfl)) (by decide) (by decide)
  obtain ⟨T2, X2, e2, st2⟩ := own_pure (own_cV X0 hx hZ hown (hw _ (List.mem_of_getElem? (i := 67) rfl)) (hw _ (List.mem_of_getElem? (i := 68) rfl)) (notFace_of_selects (args := #[]) (mvT hZ (hw _ (List.mem_of_getElem? (i := 70) rfl)))) (hw _ (List.mem_of_getElem? (i := 70) rfl)) (hw _ (List.mem_of_getElem? (i := 69) rfl)) (by decide) e0 (h := h0) (b := x) EX (argsL := []) (rest := []) K1 (pc := 10) (Ls := #[.val (.ref a), .val (.ref x), .unset]) (by rw [hml]; rfl) (lenOf own_pd7 rfl) rfl (Nat.le_of_eq rfl) (hb hby own_d11_10) (by decide) (by decide))
  refine own_st (g' := (mkF m 13 #[.val (.ref a), .val (.ref x), .unset] [(.int (Int32.ofNat lm))])) st2 ?_
  refine own_st (g' := (mkF m 16 #[.val (.ref a), .val (.ref x), .val (.int (Int32.ofNat lm))] [(.ref a), (.ref a)])) (fun _ q => XS.istoreN X2.here hx rfl (hb hby own_d11_13) rfl (l' := #[.val (.ref a), .val (.ref x), .val (.int (Int32.ofNat lm))]) rfl (XS.aloadN X2.here hx rfl (hb hby own_d11_14) rfl rfl (XS.aloadN X2.here hx rfl (hb hby own_d11_15) rfl rfl (q)))) ?_
  obtain ⟨T3, X3, e3, st3⟩ := getF X2 hx hZ hown (host := "") (Or.inl (hw _ (List.mem_of_getElem? (i := 77) rfl))) Via.refl e2 NA (g := (mkF m 16 #[.val (.ref a), .val (.ref x), .val (.int (Int32.ofNat lm))] [(.ref a), (.ref a)])) rfl rfl (hb hby own_d11_16)
  refine own_st (g' := (mkF m 19 #[.val (.ref a), .val (.ref x), .val (.int (Int32.ofNat lm))] [(.int (Int32.ofNat n)), (.ref a)])) st3 ?_
  refine own_st (g' := (mkF m 21 #[.val (.ref a), .val (.ref x), .val (.int (Int32.ofNat lm))] [(.int ((Int32.ofNat n) + (Int32.ofNat lm))), (.ref a)])) (fun _ q => XS.iloadN X3.here hx rfl (hb hby own_d11_19) rfl (XS.iadd X3.here hx rfl (hb hby own_d11_20) rfl (q))) ?_
  rw [show ((Int32.ofNat n) + (Int32.ofNat lm)) = (Int32.ofNat (n + lm)) from own_addN _ _]
  have K4 : own_Bk l ({ frames := 4, cells := 1, slots := 128, locals := 62 } : Room) p e below s #[(.ref a), (.ref x)] (⟨"java/lang/AbstractStringBuilder", "ensureCapacityInternal", "(I)V"⟩ : MethodName) 0 h0 #[(.ref a), (.int (Int32.ofNat (n + lm)))] 1 128 (own_Q_ensG Z a b kb n cap vs ((n + lm)) n0 h0) := backOf (s := s) (R := ({ frames := 4, cells := 1, slots := 128, locals := 62 } : Room)) (W := 0) (Q := (own_Q_ensG Z a b kb n cap vs ((n + lm)) n0 h0)) (rm := ({ frames := 3, cells := 1, slots := 128, locals := 48 } : Room)) (own_rm_ensG l Z a0 hw [] a b kb n cap vs ((n + lm)) n0 h0 EA FA CA NA VA la (by omega) Z0 ga (by omega) (by omega) (by omega) (by omega)) hZ (hw _ (List.mem_of_getElem? (i := 83) rfl)) (hw _ (List.mem_of_getElem? (i := 46) rfl)) (by decide) (by decide)
  obtain ⟨_, L5, T5, X5, ⟨rfl, N5q, K5, E5, b5, kb5, us5, g5, F5, Cd5, Ct5, V5, l5, tk5⟩, st5⟩ := own_cP X3 hx hZ hown (hw _ (List.mem_of_getElem? (i := 79) rfl)) (hw _ (List.mem_of_getElem? (i := 80) rfl)) (hw _ (List.mem_of_getElem? (i := 82) rfl)) (hw _ (List.mem_of_getElem? (i := 83) rfl)) (by decide) e3 (h := h0) (b := a) EA (argsL := [(.int (Int32.ofNat (n + lm)))]) (rest := []) K4 (pc := 21) (Ls := #[.val (.ref a), .val (.ref x), .val (.int (Int32.ofNat lm))]) (by rw [hml]; rfl) (lenOf own_pd8 rfl) rfl (Nat.le_of_eq rfl) (hb hby own_d11_21) (by decide) (by decide)
  have N5 := Fr.app N0 N5q
  refine own_st (g' := (mkF m 24 #[.val (.ref a), .val (.ref x), .val (.int (Int32.ofNat lm))] [])) st5 ?_
  refine own_st (g' := (mkF m 26 #[.val (.ref a), .val (.ref x), .val (.int (Int32.ofNat lm))] [(.ref a), (.ref a)])) (fun _ q => XS.aloadN X5.here hx rfl (hb hby own_d11_24) rfl rfl (XS.aloadN X5.here hx rfl (hb hby own_d11_25) rfl rfl (q))) ?_
  obtain ⟨T6, X6, e6, st6⟩ := getF X5 hx hZ hown (host := "") (Or.inl (hw _ (List.mem_of_getElem? (i := 77) rfl))) Via.refl rfl Ct5 (g := (mkF m 26 #[.val (.ref a), .val (.ref x), .val (.int (Int32.ofNat lm))] [(.ref a), (.ref a)])) rfl rfl (hb hby own_d11_26)
  refine own_st (g' := (mkF m 29 #[.val (.ref a), .val (.ref x), .val (.int (Int32.ofNat lm))] [(.int (Int32.ofNat n)), (.ref a)])) st6 ?_
  refine own_st (g' := (mkF m 30 #[.val (.ref a), .val (.ref x), .val (.int (Int32.ofNat lm))] [(.ref x), (.int (Int32.ofNat n)), (.ref a)])) (fun _ q => XS.aloadN X6.here hx rfl (hb hby own_d11_29) rfl rfl (q)) ?_
  have K7 : own_Bk l ({ frames := 4, cells := 1, slots := 128, locals := 62 } : Room) p e below s #[(.ref a), (.ref x)] (⟨"java/lang/AbstractStringBuilder", "putStringAt", "(ILjava/lang/String;)V"⟩ : MethodName) 0 T5.heap #[(.ref a), (.int (Int32.ofNat n)), (.ref x)] 0 0 (own_Q_putS Z a b5 kb5 n (cap + max ((n + lm) - cap) (cap + 2)) us5 (n) n0 z x t kt lm us T5.heap) := backOf (s := s) (R := ({ frames := 4, cells := 1, slots := 128, locals := 62 } : Room)) (W := 0) (Q := (own_Q_putS Z a b5 kb5 n (cap + max ((n + lm) - cap) (cap + 2)) us5 (n) n0 z x t kt lm us T5.heap)) (rm := ({ frames := 2, cells := 0, slots := 0, locals := 36 } : Room)) (own_rm_putS l Z a0 hw [] a b5 kb5 n (cap + max ((n + lm) - cap) (cap + 2)) us5 (n) n0 z x t kt lm us T5.heap E5 F5 Cd5 Ct5 V5 l5 (by omega) (EX.keep K5) (FX.keep K5 (ninS nxa nin0)) (CX.keep K5 (ninS nxa nin0)) (VX.keep K5 (ninS (Ne.symm nat) nin0)) lu O hz (X00.keep K5 (allS ga all0)) (Nat.le_trans Z0 g5) (by omega) (by omega)) hZ (hw _ (List.mem_of_getElem? (i := 88) rfl)) (hw _ (List.mem_of_getElem? (i := 46) rfl)) (by decide) (by decide)
  obtain ⟨_, L8, T8, X8, ⟨rfl, N8q, K8, V8⟩, st8⟩ := own_cP X6 hx hZ hown (hw _ (List.mem_of_getElem? (i := 84) rfl)) (hw _ (List.mem_of_getElem? (i := 85) rfl)) (hw _ (List.mem_of_getElem? (i := 87) rfl)) (hw _ (List.mem_of_getElem? (i := 88) rfl)) (by decide) e6 (h := T5.heap) (b := a) E5 (argsL := [(.int (Int32.ofNat n)), (.ref x)]) (rest := []) K7 (pc := 30) (Ls := #[.val (.ref a), .val (.ref x), .val (.int (Int32.ofNat lm))]) (by rw [hml]; rfl) (lenOf own_pd9 rfl) rfl (Nat.le_of_eq rfl) (hb hby own_d11_30) (by decide) (by decide)
  have N8 := Fr.app N5 N8q
  refine own_st (g' := (mkF m 33 #[.val (.ref a), .val (.ref x), .val (.int (Int32.ofNat lm))] [])) st8 ?_
  refine own_st (g' := (mkF m 35 #[.val (.ref a), .val (.ref x), .val (.int (Int32.ofNat lm))] [(.ref a), (.ref a)])) (fun _ q => XS.aloadN X8.here hx rfl (hb hby own_d11_33) rfl rfl (XS.dup X8.here hx rfl (hb hby own_d11_34) rfl rfl (q))) ?_
  obtain ⟨T9, X9, e9, st9⟩ := getF X8 hx hZ hown (host := "") (Or.inl (hw _ (List.mem_of_getElem? (i := 77) rfl))) Via.refl rfl (Ct5.keep K8 (ninS (Nat.ne_of_lt (Nat.lt_of_lt_of_le EA.lt g5)) nin0)) (g := (mkF m 35 #[.val (.ref a), .val (.ref x), .val (.int (Int32.ofNat lm))] [(.ref a), (.ref a)])) rfl rfl (hb hby own_d11_35)
  refine own_st (g' := (mkF m 38 #[.val (.ref a), .val (.ref x), .val (.int (Int32.ofNat lm))] [(.int (Int32.ofNat n)), (.ref a)])) st9 ?_
  refine own_st (g' := (mkF m 40 #[.val (.ref a), .val (.ref x), .val (.int (Int32.ofNat lm))] [(.int ((Int32.ofNat n) + (Int32.ofNat lm))), (.ref a)])) (fun _ q => XS.iloadN X9.here hx rfl (hb hby own_d11_38) rfl (XS.iadd X9.here hx rfl (hb hby own_d11_39) rfl (q))) ?_
  rw [show ((Int32.ofNat n) + (Int32.ofNat lm)) = (Int32.ofNat (n + lm)) from own_addN _ _]
  obtain ⟨T10, h10, X10, e10, W10, st10⟩ := putF X9 hx hZ hown (host := "") (Or.inl (hw _ (List.mem_of_getElem? (i := 77) rfl))) Via.refl e9 (Ct5.keep K8 (ninS (Nat.ne_of_lt (Nat.lt_of_lt_of_le EA.lt g5)) nin0)) (E5.keep K8) (Or.inl (hw _ (List.mem_of_getElem? (i := 78) rfl))) (hw _ (List.mem_of_getElem? (i := 37) rfl)) (ty := .int) (by decide) rfl rfl (g := (mkF m 40 #[.val (.ref a), .val (.ref x), .val (.int (Int32.ofNat lm))] [(.int (Int32.ofNat (n + lm))), (.ref a)])) rfl rfl (hb hby own_d11_40)
  have F10 : Fld Z h10 a "java/lang/AbstractStringBuilder" "count" "I" (.int (Int32.ofNat (n + lm))) := (Ct5.keep K8 (ninS (Nat.ne_of_lt (Nat.lt_of_lt_of_le EA.lt g5)) nin0)).same W10
  have N10 := Fr.snoc X10 N8 ga
  refine own_st (g' := (mkF m 43 #[.val (.ref a), .val (.ref x), .val (.int (Int32.ofNat lm))] [])) st10 ?_
  refine own_st (g' := (mkF m 44 #[.val (.ref a), .val (.ref x), .val (.int (Int32.ofNat lm))] [(.ref a)])) (fun _ q => XS.aloadN X10.here hx rfl (hb hby own_d11_43) rfl rfl (q)) ?_
  exact own_goR X10 hlk hx (t := (.object "java/lang/AbstractStringBuilder")) rfl rfl Bd.returns (hb hby own_d11_44) (by rw [e10]; exact ⟨rfl, N10, ((((Keep.refl h0 [a]).trans K5 (allS (Or.inl (List.mem_of_getElem? (i := 0) rfl)) all0)).trans K8 (allS (Or.inr (Nat.le_trans (Nat.le_refl _) g5)) all0)).wr W10 (Or.inl (List.mem_of_getElem? (i := 0) rfl))), ((E5.keep K8).wr W10), b5, _, _, (Nat.le_trans (Nat.le_refl _) g5), ((F5.keep K8 (ninS (Nat.ne_of_lt (Nat.lt_of_lt_of_le EA.lt g5)) nin0)).other W10 (Or.inr (slot_ne (Or.inl (hw _ (List.mem_of_getElem? (i := 51) rfl))) (Or.inl (hw _ (List.mem_of_getElem? (i := 78) rfl))) (by decide) (t := (.array .byte)) (by decide) (t' := .int) (by decide)))), ((Cd5.keep K8 (ninS (Nat.ne_of_lt (Nat.lt_of_lt_of_le EA.lt g5)) nin0)).other W10 (Or.inr (slot_ne (Or.inl (hw _ (List.mem_of_getElem? (i := 53) rfl))) (Or.inl (hw _ (List.mem_of_getElem? (i := 78) rfl))) (by decide) (t := .byte) (by decide) (t' := .int) (by decide)))), F10, (V8.other W10 (Ne.symm (Nat.ne_of_lt (Nat.lt_of_lt_of_le EA.lt g5)))), ((own_cp_len (by omega)).trans l5), (own_cpG lu l5 (by omega) tk5 hn)⟩) (by decide) (by decide)
theorem own_pn4 : plainName "java/lang/StringBuilder" = true := by first | (simp [plainName, overriddenIn]; done) | decide +kernel
abbrev own_Q_apF (Z : State) (a b : Addr) (kb : ClassId) (n cap : Nat) (vs : List Value) (n0 : Nat) (z : Int32) (x t : Addr) (kt : ClassId) (lm : Nat) (us : List Value) (h0 : Heap) : Option Value → Heap → List Loc → Prop := fun v h L => v = some (.ref a) ∧ Fr n0 L ∧ Keep h0 h [a, b] ∧ Exa Z h a "java/lang/StringBuilder" ∧ Fld Z h a "java/lang/AbstractStringBuilder" "value" "[B" (.ref b) ∧ Fld Z h a "java/lang/AbstractStringBuilder" "coder" "B" (.int (0 : Int32)) ∧ Fld Z h a "java/lang/AbstractStringBuilder" "count" "I" (.int (Int32.ofNat (n + lm))) ∧ ∃ us', Arv Z h b kb .byte (Int32.ofNat cap) us' (.int (0 : Int32)) ∧ us'.length = cap ∧ us'.take (n + lm) = vs.take n ++ us
theorem own_d12_0 : decode jdk_67_method_7_code 0 = .ok (.aload_n 0, 1) := by decide +kernel
theorem own_d12_1 : decode jdk_67_method_7_code 1 = .ok (.aload_n 1, 1) := by decide +kernel
theorem own_d12_2 : decode jdk_67_method_7_code 2 = .ok (.invokespecial 29, 3) := by decide +kernel
theorem own_pd10 : parseMethodDescriptor "(Ljava/lang/String;)Ljava/lang/AbstractStringBuilder;" = some ⟨[(.object "java/lang/String")], some (.object "java/lang/AbstractStringBuilder")⟩ := by decide +kernel
theorem own_d12_5 : decode jdk_67_method_7_code 5 = .ok (.pop, 1) := by decide +kernel
theorem own_d12_6 : decode jdk_67_method_7_code 6 = .ok (.aload_n 0, 1) := by decide +kernel
theorem own_d12_7 : decode jdk_67_method_7_code 7 = .ok (.areturn, 1) := by decide +kernel
set_option maxRecDepth 65536 in
set_option maxHeartbeats 40000000 in
theorem own_rm_apF (l : Launch) (Z : State) (a0 : Array Value) (hw : ∀ d ∈ tables_1, d.before a0 Z = true) (ws : List Jvm.Cond) (a b : Addr) (kb : ClassId) (n cap : Nat) (vs : List Value) (n0 : Nat) (z : Int32) (x t : Addr) (kt : ClassId) (lm : Nat) (us : List Value) (h0 : Heap) (EA : Exa Z h0 a "java/lang/StringBuilder") (FA : Fld Z h0 a "java/lang/AbstractStringBuilder" "value" "[B" (.ref b)) (CA : Fld Z h0 a "java/lang/AbstractStringBuilder" "coder" "B" (.int (0 : Int32))) (NA : Fld Z h0 a "java/lang/AbstractStringBuilder" "count" "I" (.int (Int32.ofNat n))) (VA : Arv Z h0 b kb .byte (Int32.ofNat cap) vs (.int (0 : Int32))) (la : vs.length = cap) (hn : n ≤ cap) (EX : Exa Z h0 x "java/lang/String") (FX : Fld Z h0 x "java/lang/String" "value" "[B" (.ref t)) (CX : Fld Z h0 x "java/lang/String" "coder" "B" (.int (0 : Int32))) (VX : Arv Z h0 t kt .byte (Int32.ofNat lm) us (.int (0 : Int32))) (lu : us.length = lm) (O : Sta Z Z.heap "java/lang/String" "COMPACT_STRINGS" "Z" (.int z)) (hz : ¬ z = (0 : Int32)) (X00 : Old Z n0 h0) (Z0 : n0 ≤ h0.size) (ga : n0 ≤ a) (gb : n0 ≤ b) (hK : cap ≤ 100000) (hq : n + lm ≤ cap) :
    MetFree l (⟨"java/lang/StringBuilder", "append", "(Ljava/lang/String;)Ljava/lang/StringBuilder;"⟩ : MethodName) (head1 (Jvm.Cond.code (⟨"java/lang/StringBuilder", "append", "(Ljava/lang/String;)Ljava/lang/StringBuilder;"⟩ : MethodName) jdk_67_method_7_code 2 (some (.object "java/lang/StringBuilder")) :: ws) ({ frames := 4, cells := 0, slots := 0, locals := 64 } : Room)) (fun aa U => aa = #[(.ref a), (.ref x)] ∧ Z.Warmed39 U.vm ∧ U.heap = h0) (fun _ _ _ _ _ => True) (fun _ U o_ U' => ∃ v L, o_ = .returned v ∧ (own_Q_apF Z a b kb n cap vs n0 z x t kt lm us h0) v U'.heap L ∧ FrameEnd U o_ U' L ({ frames := 4, cells := 0, slots := 0, locals := 64 } : Room).cells ({ frames := 4, cells := 0, slots := 0, locals := 64 } : Room).slots) := by
  refine MetFree.of_bodySF (plainFor_of_name own_pn4) hisR ?_
  intro p e s m args below meth c s₁ Bd hml0 hP hK
  obtain ⟨rfl, hZ, hh⟩ := hP
  have hx := Bd.exec
  have hby := Bd.bytes
  have hml : c.maxLocals = 2 := hml0
  have hlk : meth.locks = false := BodyLoose.notSynchronized Bd
  have hown : s.vm.findClass "java/lang/StringBuilder" = some m.cls := findClass_of_methodNamed Bd.named
  have hnm := (name_of_methodNamed Bd.named Bd.method).1
  have X0 : Stand p l e ({ frames := 4, cells := 0, slots := 0, locals := 64 } : Room) s m #[(.ref a), (.ref x)] below meth c s₁ [] 0 0 := Stand.of_body Bd
  have e0 : s₁.heap = h0 := by rw [← hh, Bd.state]; rfl
  rw [own_ef5 m a x]
  show own_Go p e below s ({ frames := 4, cells := 0, slots := 0, locals := 64 } : Room).cells ({ frames := 4, cells := 0, slots := 0, locals := 64 } : Room).slots (own_Q_apF Z a b kb n cap vs n0 z x t kt lm us h0) s₁ (mkF m 0 #[.val (.ref a), .val (.ref x)] [])
  have N0 := Fr.nil n0
  have nab := Exa.neArv EA VA (hw _ (List.mem_of_getElem? (i := 37) rfl))
  have nat := Exa.neArv EA VX (hw _ (List.mem_of_getElem? (i := 37) rfl))
  have nxa := ne_exa EX EA (by decide)
  have nxb := Exa.neArv EX VA (hw _ (List.mem_of_getElem? (i := 1) rfl))
  refine own_st (g' := (mkF m 2 #[.val (.ref a), .val (.ref x)] [(.ref x), (.ref a)])) (fun _ q => XS.aloadN X0.here hx rfl (hb hby own_d12_0) rfl rfl (XS.aloadN X0.here hx rfl (hb hby own_d12_1) rfl rfl (q))) ?_
  have K1 : own_Bk l ({ frames := 4, cells := 0, slots := 0, locals := 64 } : Room) p e below s #[(.ref a), (.ref x)] (⟨"java/lang/AbstractStringBuilder", "append", "(Ljava/lang/String;)Ljava/lang/AbstractStringBuilder;"⟩ : MethodName) 0 h0 #[(.ref a), (.ref x)] 0 0 (own_Q_apAF Z a b kb n cap vs n0 z x t kt lm us h0) := backOf (s := s) (R := ({ frames := 4, cells := 0, slots := 0, locals := 64 } : Room)) (W := 0) (Q := (own_Q_apAF Z a b kb n cap vs n0 z x t kt lm us h0)) (rm := ({ frames := 3, cells := 0, slots := 0, locals := 50 } : Room)) (own_rm_apAF l Z a0 hw [] a b kb n cap vs n0 z x t kt lm us h0 EA FA CA NA VA la (by omega) EX FX CX VX lu O hz X00 Z0 ga gb (by omega) (by omega)) hZ (hw _ (List.mem_of_getElem? (i := 66) rfl)) (hw _ (List.mem_of_getElem? (i := 46) rfl)) (by decide) (by decide)
  obtain ⟨_, L2, T2, X2, ⟨rfl, N2q, K2, E2, F2, Cd2, Ct2, us2, V2, l2, ap2⟩, st2⟩ := own_cU X0 hx hZ hown (hw _ (List.mem_of_getElem? (i := 62) rfl)) (own_same (hw _ (List.mem_of_getElem? (i := 82) rfl)) rfl (hw _ (List.mem_of_getElem? (i := 63) rfl)) (by decide)) (hw _ (List.mem_of_getElem? (i := 63) rfl)) (hw _ (List.mem_of_getElem? (i := 64) rfl)) (hw _ (List.mem_of_getElem? (i := 66) rfl)) (by decide) e0 (h := h0) (b := a) EA (argsL := [(.ref x)]) (rest := []) K1 (pc := 2) (Ls := #[.val (.ref a), .val (.ref x)]) (by rw [hml]; rfl) (lenOf own_pd10 rfl) rfl (Nat.le_of_eq rfl) (hb hby own_d12_2) (by decide) (by decide)
  have N2 := Fr.app N0 N2q
  refine own_st (g' := (mkF m 5 #[.val (.ref a), .val (.ref x)] [(.ref a)])) st2 ?_
  refine own_st (g' := (mkF m 7 #[.val (.ref a), .val (.ref x)] [(.ref a)])) (fun _ q => XS.pop X2.here hx rfl (hb hby own_d12_5) rfl rfl (XS.aloadN X2.here hx rfl (hb hby own_d12_6) rfl rfl (q))) ?_
  exact own_goR X2 hlk hx (t := (.object "java/lang/StringBuilder")) rfl rfl Bd.returns (hb hby own_d12_7) ⟨rfl, N2, ((Keep.refl h0 [a, b]).trans K2 (allS (Or.inl (List.mem_of_getElem? (i := 0) rfl)) (allS (Or.inl (List.mem_of_getElem? (i := 1) rfl)) all0))), E2, F2, Cd2, Ct2, _, V2, l2, ap2⟩ (by decide) (by decide)
abbrev own_Q_apG (Z : State) (a b : Addr) (kb : ClassId) (n cap : Nat) (vs : List Value) (n0 : Nat) (z : Int32) (x t : Addr) (kt : ClassId) (lm : Nat) (us : List Value) (h0 : Heap) : Option Value → Heap → List Loc → Prop := fun v h L => v = some (.ref a) ∧ Fr n0 L ∧ Keep h0 h [a] ∧ Exa Z h a "java/lang/StringBuilder" ∧ ∃ b' kb' us', h0.size ≤ b' ∧ Fld Z h a "java/lang/AbstractStringBuilder" "value" "[B" (.ref b') ∧ Fld Z h a "java/lang/AbstractStringBuilder" "coder" "B" (.int (0 : Int32)) ∧ Fld Z h a "java/lang/AbstractStringBuilder" "count" "I" (.int (Int32.ofNat (n + lm))) ∧ Arv Z h b' kb' .byte (Int32.ofNat (cap + max (n + lm - cap) (cap + 2))) us' (.int (0 : Int32)) ∧ us'.length = (cap + max (n + lm - cap) (cap + 2)) ∧ us'.take (n + lm) = vs.take n ++ us
set_option maxRecDepth 65536 in
set_option maxHeartbeats 40000000 in
theorem own_rm_apG (l : Launch) (Z : State) (a0 : Array Value) (hw : ∀ d ∈ tables_1, d.before a0 Z = true) (ws : List Jvm.Cond) (a b : Addr) (kb : ClassId) (n cap : Nat) (vs : List Value) (n0 : Nat) (z : Int32) (x t : Addr) (kt : ClassId) (lm : Nat) (us : List Value) (h0 : Heap) (EA : Exa Z h0 a "java/lang/StringBuilder") (FA : Fld Z h0 a "java/lang/AbstractStringBuilder" "value" "[B" (.ref b)) (CA : Fld Z h0 a "java/lang/AbstractStringBuilder" "coder" "B" (.int (0 : Int32))) (NA : Fld Z h0 a "java/lang/AbstractStringBuilder" "count" "I" (.int (Int32.ofNat n))) (VA : Arv Z h0 b kb .byte (Int32.ofNat cap) vs (.int (0 : Int32))) (la : vs.length = cap) (hn : n ≤ cap) (EX : Exa Z h0 x "java/lang/String") (FX : Fld Z h0 x "java/lang/String" "value" "[B" (.ref t)) (CX : Fld Z h0 x "java/lang/String" "coder" "B" (.int (0 : Int32))) (VX : Arv Z h0 t kt .byte (Int32.ofNat lm) us (.int (0 : Int32))) (lu : us.length = lm) (O : Sta Z Z.heap "java/lang/String" "COMPACT_STRINGS" "Z" (.int z)) (hz : ¬ z = (0 : Int32)) (X00 : Old Z n0 h0) (Z0 : n0 ≤ h0.size) (ga : n0 ≤ a) (hK : cap ≤ 100000) (hq : cap < n + lm) (hq2 : n + lm ≤ 100000) (hq3 : (cap + max (n + lm - cap) (cap + 2)) ≤ 128) :
    MetFree l (⟨"java/lang/StringBuilder", "append", "(Ljava/lang/String;)Ljava/lang/StringBuilder;"⟩ : MethodName) (head1 (Jvm.Cond.code (⟨"java/lang/StringBuilder", "append", "(Ljava/lang/String;)Ljava/lang/StringBuilder;"⟩ : MethodName) jdk_67_method_7_code 2 (some (.object "java/lang/StringBuilder")) :: ws) ({ frames := 5, cells := 1, slots := 128, locals := 76 } : Room)) (fun aa U => aa = #[(.ref a), (.ref x)] ∧ Z.Warmed39 U.vm ∧ U.heap = h0) (fun _ _ _ _ _ => True) (fun _ U o_ U' => ∃ v L, o_ = .returned v ∧ (own_Q_apG Z a b kb n cap vs n0 z x t kt lm us h0) v U'.heap L ∧ FrameEnd U o_ U' L ({ frames := 5, cells := 1, slots := 128, locals := 76 } : Room).cells ({ frames := 5, cells := 1, slots := 128, locals := 76 } : Room).slots) := by
  refine MetFree.of_bodySF (plainFor_of_name own_pn4) hisR ?_
  intro p e s m args below meth c s₁ Bd hml0 hP hK
  obtain ⟨rfl, hZ, hh⟩ := hP
  have hx := Bd.exec
  have hby := Bd.bytes
  have hml : c.maxLocals = 2 := hml0
  have hlk : meth.locks = false := BodyLoose.notSynchronized Bd
  have hown : s.vm.findClass "java/lang/StringBuilder" = some m.cls := findClass_of_methodNamed Bd.named
  have hnm := (name_of_methodNamed Bd.named Bd.method).1
  have X0 : Stand p l e ({ frames := 5, cells := 1, slots := 128, locals := 76 } : Room) s m #[(.ref a), (.ref x)] below meth c s₁ [] 0 0 := Stand.of_body Bd
  have e0 : s₁.heap = h0 := by rw [← hh, Bd.state]; rfl
  rw [own_ef5 m a x]
  show own_Go p e below s ({ frames := 5, cells := 1, slots := 128, locals := 76 } : Room).cells ({ frames := 5, cells := 1, slots := 128, locals := 76 } : Room).slots (own_Q_apG Z a b kb n cap vs n0 z x t kt lm us h0) s₁ (mkF m 0 #[.val (.ref a), .val (.ref x)] [])
  have N0 := Fr.nil n0
  have nab := Exa.neArv EA VA (hw _ (List.mem_of_getElem? (i := 37) rfl))
  have nat := Exa.neArv EA VX (hw _ (List.mem_of_getElem? (i := 37) rfl))
  have nxa := ne_exa EX EA (by decide)
  have nxb := Exa.neArv EX VA (hw _ (List.mem_of_getElem? (i := 1) rfl))
  refine own_st (g' := (mkF m 2 #[.val (.ref a), .val (.ref x)] [(.ref x), (.ref a)])) (fun _ q => XS.aloadN X0.here hx rfl (hb hby own_d12_0) rfl rfl (XS.aloadN X0.here hx rfl (hb hby own_d12_1) rfl rfl (q))) ?_
  have K1 : own_Bk l ({ frames := 5, cells := 1, slots := 128, locals := 76 } : Room) p e below s #[(.ref a), (.ref x)] (⟨"java/lang/AbstractStringBuilder", "append", "(Ljava/lang/String;)Ljava/lang/AbstractStringBuilder;"⟩ : MethodName) 0 h0 #[(.ref a), (.ref x)] 1 128 (own_Q_apAG Z a b kb n cap vs n0 z x t kt lm us h0) := backOf (s := s) (R := ({ frames := 5, cells := 1, slots := 128, locals := 76 } : Room)) (W := 0) (Q := (own_Q_apAG Z a b kb n cap vs n0 z x t kt lm us h0)) (rm := ({ frames := 4, cells := 1, slots := 128, locals := 62 } : Room)) (own_rm_apAG l Z a0 hw [] a b kb n cap vs n0 z x t kt lm us h0 EA FA CA NA VA la (by omega) EX FX CX VX lu O hz X00 Z0 ga (by omega) (by omega) (by omega) (by omega)) hZ (hw _ (List.mem_of_getElem? (i := 66) rfl)) (hw _ (List.mem_of_getElem? (i := 46) rfl)) (by decide) (by decide)
  obtain ⟨_, L2, T2, X2, ⟨rfl, N2q, K2, E2, b2, kb2, us2, g2, F2, Cd2, Ct2, V2, l2, ap2⟩, st2⟩ := own_cU X0 hx hZ hown (hw _ (List.mem_of_getElem? (i := 62) rfl)) (own_same (hw _ (List.mem_of_getElem? (i := 82) rfl)) rfl (hw _ (List.mem_of_getElem? (i := 63) rfl)) (by decide)) (hw _ (List.mem_of_getElem? (i := 63) rfl)) (hw _ (List.mem_of_getElem? (i := 64) rfl)) (hw _ (List.mem_of_getElem? (i := 66) rfl)) (by decide) e0 (h := h0) (b := a) EA (argsL := [(.ref x)]) (rest := []) K1 (pc := 2) (Ls := #[.val (.ref a), .val (.ref x)]) (by rw [hml]; rfl) (lenOf own_pd10 rfl) rfl (Nat.le_of_eq rfl) (hb hby own_d12_2) (by decide) (by decide)
  have N2 := Fr.app N0 N2q
  refine own_st (g' := (mkF m 5 #[.val (.ref a), .val (.ref x)] [(.ref a)])) st2 ?_
  refine own_st (g' := (mkF m 7 #[.val (.ref a), .val (.ref x)] [(.ref a)])) (fun _ q => XS.pop X2.here hx rfl (hb hby own_d12_5) rfl rfl (XS.aloadN X2.here hx rfl (hb hby own_d12_6) rfl rfl (q))) ?_
  exact own_goR X2 hlk hx (t := (.object "java/lang/StringBuilder")) rfl rfl Bd.returns (hb hby own_d12_7) ⟨rfl, N2, ((Keep.refl h0 [a]).trans K2 (allS (Or.inl (List.mem_of_getElem? (i := 0) rfl)) all0)), E2, b2, _, _, (Nat.le_trans (Nat.le_refl _) g2), F2, Cd2, Ct2, V2, l2, ap2⟩ (by decide) (by decide)
theorem own_ef9 (m : MethodId) (x0 : Addr) (x1 : Int32) : entryFrame m #[(.ref x0), (.int x1)] 2 = mkF m 0 #[.val (.ref x0), .val (.int x1)] [] := by first | (simp [entryFrame, mkF, argsToLocals, Value.category, maxLocals]; done) | rfl
abbrev own_Q_ainit (Z : State) (a : Addr) (n0 : Nat) (z : Int32) (h0 : Heap) : Option Value → Heap → List Loc → Prop := fun v h L => v = none ∧ Fr n0 L ∧ Keep h0 h [a] ∧ Exa Z h a "java/lang/StringBuilder" ∧ ∃ b' kb', h0.size ≤ b' ∧ Fld Z h a "java/lang/AbstractStringBuilder" "value" "[B" (.ref b') ∧ Fld Z h a "java/lang/AbstractStringBuilder" "coder" "B" (.int (0 : Int32)) ∧ Fld Z h a "java/lang/AbstractStringBuilder" "count" "I" (.int (Int32.ofNat 0)) ∧ Arv Z h b' kb' .byte (Int32.ofNat 16) (List.replicate 16 (.int (0 : Int32))) (.int (0 : Int32))
theorem own_d13_0 : decode jdk_68_method_2_code 0 = .ok (.aload_n 0, 1) := by decide +kernel
theorem own_d13_1 : decode jdk_68_method_2_code 1 = .ok (.invokespecial 3, 3) := by decide +kernel
theorem own_d13_4 : decode jdk_68_method_2_code 4 = .ok (.getstatic 18, 3) := by decide +kernel
theorem own_d13_7 : decode jdk_68_method_2_code 7 = .ok (.ifCond .eq 18, 3) := by decide +kernel
theorem own_d13_10 : decode jdk_68_method_2_code 10 = .ok (.aload_n 0, 1) := by decide +kernel
theorem own_d13_11 : decode jdk_68_method_2_code 11 = .ok (.iload_n 1, 1) := by decide +kernel
theorem own_d13_12 : decode jdk_68_method_2_code 12 = .ok (.newarray .byte, 2) := by decide +kernel
theorem own_d13_14 : decode jdk_68_method_2_code 14 = .ok (.putfield 15, 3) := by decide +kernel
theorem own_d13_17 : decode jdk_68_method_2_code 17 = .ok (.aload_n 0, 1) := by decide +kernel
theorem own_d13_18 : decode jdk_68_method_2_code 18 = .ok (.iconst 0, 1) := by decide +kernel
theorem own_d13_19 : decode jdk_68_method_2_code 19 = .ok (.putfield 22, 3) := by decide +kernel
theorem own_d13_22 : decode jdk_68_method_2_code 22 = .ok (.goto 16, 3) := by decide +kernel
theorem own_d13_38 : decode jdk_68_method_2_code 38 = .ok (.return_, 1) := by decide +kernel
set_option maxRecDepth 65536 in
set_option maxHeartbeats 40000000 in
theorem own_rm_ainit (l : Launch) (Z : State) (a0 : Array Value) (hw : ∀ d ∈ tables_1, d.before a0 Z = true) (ws : List Jvm.Cond) (a : Addr) (n0 : Nat) (z : Int32) (h0 : Heap) (EA : Exa Z h0 a "java/lang/StringBuilder") (FA : Fld Z h0 a "java/lang/AbstractStringBuilder" "value" "[B" .null) (CA : Fld Z h0 a "java/lang/AbstractStringBuilder" "coder" "B" (.int (0 : Int32))) (NA : Fld Z h0 a "java/lang/AbstractStringBuilder" "count" "I" (.int (0 : Int32))) (Z0 : n0 ≤ h0.size) (ga : n0 ≤ a) (X00 : Old Z n0 h0) (O : Sta Z Z.heap "java/lang/String" "COMPACT_STRINGS" "Z" (.int z)) (hz : ¬ z = (0 : Int32)) :
    MetFree l (⟨"java/lang/AbstractStringBuilder", "<init>", "(I)V"⟩ : MethodName) (head1 (Jvm.Cond.code (⟨"java/lang/AbstractStringBuilder", "<init>", "(I)V"⟩ : MethodName) jdk_68_method_2_code 2 none :: ws) ({ frames := 1, cells := 1, slots := 16, locals := 12 } : Room)) (fun aa U => aa = #[(.ref a), (.int (16 : Int32))] ∧ Z.Warmed39 U.vm ∧ U.heap = h0) (fun _ _ _ _ _ => True) (fun _ U o_ U' => ∃ v L, o_ = .returned v ∧ (own_Q_ainit Z a n0 z h0) v U'.heap L ∧ FrameEnd U o_ U' L ({ frames := 1, cells := 1, slots := 16, locals := 12 } : Room).cells ({ frames := 1, cells := 1, slots := 16, locals := 12 } : Room).slots) := by
  refine MetFree.of_bodySF (plainFor_of_name own_pn2) hisR ?_
  intro p e s m args below meth c s₁ Bd hml0 hP hK
  obtain ⟨rfl, hZ, hh⟩ := hP
  have hx := Bd.exec
  have hby := Bd.bytes
  have hml : c.maxLocals = 2 := hml0
  have hlk : meth.locks = false := BodyLoose.notSynchronized Bd
  have hown : s.vm.findClass "java/lang/AbstractStringBuilder" = some m.cls := findClass_of_methodNamed Bd.named
  have hnm := (name_of_methodNamed Bd.named Bd.method).1
  have X0 : Stand p l e ({ frames := 1, cells := 1, slots := 16, locals := 12 } : Room) s m #[(.ref a), (.int (16 : Int32))] below meth c s₁ [] 0 0 := Stand.of_body Bd
  have e0 : s₁.heap = h0 := by rw [← hh, Bd.state]; rfl
  rw [own_ef9 m a (16 : Int32)]
  show own_Go p e below s ({ frames := 1, cells := 1, slots := 16, locals := 12 } : Room).cells ({ frames := 1, cells := 1, slots := 16, locals := 12 } : Room).slots (own_Q_ainit Z a n0 z h0) s₁ (mkF m 0 #[.val (.ref a), .val (.int (16 : Int32))] [])
  have N0 := Fr.nil n0
  refine own_st (g' := (mkF m 1 #[.val (.ref a), .val (.int (16 : Int32))] [(.ref a)])) (fun _ q => XS.aloadN X0.here hx rfl (hb hby own_d13_0) rfl rfl (q)) ?_
  obtain ⟨T1, X1, e1, st1⟩ := initO X0 hx hZ hown (hw _ (List.mem_of_getElem? (i := 48) rfl)) (hw _ (List.mem_of_getElem? (i := 12) rfl)) (hw _ (List.mem_of_getElem? (i := 13) rfl)) e0 (g := (mkF m 1 #[.val (.ref a), .val (.int (16 : Int32))] [(.ref a)])) rfl (by rw [hml]; rfl) rfl (hb hby own_d13_1) (by decide) (W := 0) (by show 2 * 0 + _ ≤ _; exact Nat.le_of_eq rfl) (by decide)
  refine own_st (g' := (mkF m 4 #[.val (.ref a), .val (.int (16 : Int32))] [])) st1 ?_
  obtain ⟨T2, X2, e2, st2⟩ := getS2 X1 hx hZ hown (host := "") (Or.inl (hw _ (List.mem_of_getElem? (i := 49) rfl))) Via.refl e1 (O.ext X00.2) (g := (mkF m 4 #[.val (.ref a), .val (.int (16 : Int32))] [])) rfl (hb hby own_d13_4)
  refine own_st (g' := (mkF m 7 #[.val (.ref a), .val (.int (16 : Int32))] [(.int z)])) st2 ?_
  refine own_st (g' := (mkF m 12 #[.val (.ref a), .val (.int (16 : Int32))] [(.int (16 : Int32)), (.ref a)])) (fun _ q => XS.ifNo X2.here hx rfl (hb hby own_d13_7) rfl ((if0 _ _).trans (feq hz).1) (XS.aloadN X2.here hx rfl (hb hby own_d13_10) rfl rfl (XS.iloadN X2.here hx rfl (hb hby own_d13_11) rfl (q)))) ?_
  obtain ⟨T3, h3, k3, X3, e3, E3, A3, st3⟩ := newP X2 hx hZ (hw _ (List.mem_of_getElem? (i := 19) rfl)) e2 (g := (mkF m 12 #[.val (.ref a), .val (.int (16 : Int32))] [(.int (16 : Int32)), (.ref a)])) rfl (hb hby own_d13_12) rfl (by decide) (cap := 16) (by decide) (by decide) (by decide) (by decide)
  obtain ⟨b3, g3⟩ : ∃ z, z = h0.size := ⟨_, rfl⟩
  rw [← g3] at A3 st3
  have V3 : Arv Z h3 b3 k3 .byte (16 : Int32) [(.int (0 : Int32)), (.int (0 : Int32)), (.int (0 : Int32)), (.int (0 : Int32)), (.int (0 : Int32)), (.int (0 : Int32)), (.int (0 : Int32)), (.int (0 : Int32)), (.int (0 : Int32)), (.int (0 : Int32)), (.int (0 : Int32)), (.int (0 : Int32)), (.int (0 : Int32)), (.int (0 : Int32)), (.int (0 : Int32)), (.int (0 : Int32))] (.int (0 : Int32)) := (Arv.new A3 (by decide)).pad (pad_rep [] (.int (0 : Int32)) 16)
  refine own_st (g' := (mkF m 14 #[.val (.ref a), .val (.int (16 : Int32))] [(.ref b3), (.ref a)])) st3 ?_
  obtain ⟨T4, h4, X4, e4, W4, st4⟩ := putF X3 hx hZ hown (host := "") (Or.inl (hw _ (List.mem_of_getElem? (i := 50) rfl))) Via.refl e3 (FA.ext E3) (EA.ext E3) (Or.inl (hw _ (List.mem_of_getElem? (i := 51) rfl))) (hw _ (List.mem_of_getElem? (i := 37) rfl)) (ty := (.array .byte)) (by decide) rfl rfl (g := (mkF m 14 #[.val (.ref a), .val (.int (16 : Int32))] [(.ref b3), (.ref a)])) rfl rfl (hb hby own_d13_14)
  have F4 : Fld Z h4 a "java/lang/AbstractStringBuilder" "value" "[B" (.ref b3) := (FA.ext E3).same W4
  have N4 := Fr.snoc X4 N0 ga
  refine own_st (g' := (mkF m 17 #[.val (.ref a), .val (.int (16 : Int32))] [])) st4 ?_
  refine own_st (g' := (mkF m 19 #[.val (.ref a), .val (.int (16 : Int32))] [(.int (0 : Int32)), (.ref a)])) (fun _ q => XS.aloadN X4.here hx rfl (hb hby own_d13_17) rfl rfl (XS.iconst X4.here hx rfl (hb hby own_d13_18) (q))) ?_
  obtain ⟨T5, h5, X5, e5, W5, st5⟩ := putFN X4 hx hZ hown (hw _ (List.mem_of_getElem? (i := 52) rfl)) Via.refl e4 ((CA.ext E3).other W4 (Or.inr (slot_ne (Or.inl (hw _ (List.mem_of_getElem? (i := 53) rfl))) (Or.inl (hw _ (List.mem_of_getElem? (i := 51) rfl))) (by decide) (t := .byte) (by decide) (t' := (.array .byte)) (by decide)))) ((EA.ext E3).wr W4) (Or.inl (hw _ (List.mem_of_getElem? (i := 53) rfl))) (hw _ (List.mem_of_getElem? (i := 37) rfl)) (ty := .byte) (v' := .int (0 : Int32)) (by decide) rfl rfl (g := (mkF m 19 #[.val (.ref a), .val (.int (16 : Int32))] [(.int (0 : Int32)), (.ref a)])) rfl rfl (hb hby own_d13_19)
  have F5 : Fld Z h5 a "java/lang/AbstractStringBuilder" "coder" "B" (.int (0 : Int32)) := ((CA.ext E3).other W4 (Or.inr (slot_ne (Or.inl (hw _ (List.mem_of_getElem? (i := 53) rfl))) (Or.inl (hw _ (List.mem_of_getElem? (i := 51) rfl))) (by decide) (t := .byte) (by decide) (t' := (.array .byte)) (by decide)))).same W5
  have N5 := Fr.snoc X5 N4 ga
  refine own_st (g' := (mkF m 22 #[.val (.ref a), .val (.int (16 : Int32))] [])) st5 ?_
  refine own_st (g' := (mkF m 38 #[.val (.ref a), .val (.int (16 : Int32))] [])) (fun _ q => XS.goto X5.here hx rfl (pc0 := 22) (pc' := 38) rfl (hb hby own_d13_22) (by decide) (by decide) (q)) ?_
  exact own_goV X5 hlk hx Bd.returns (hb hby own_d13_38) (by rw [e5]; exact ⟨rfl, N5, ((((Keep.refl h0 [a]).ext E3).wr W4 (Or.inl (List.mem_of_getElem? (i := 0) rfl))).wr W5 (Or.inl (List.mem_of_getElem? (i := 0) rfl))), (((EA.ext E3).wr W4).wr W5), b3, _, (Nat.le_trans (Nat.le_refl _) (Nat.le_of_eq g3.symm)), (F4.other W5 (Or.inr (slot_ne (Or.inl (hw _ (List.mem_of_getElem? (i := 51) rfl))) (Or.inl (hw _ (List.mem_of_getElem? (i := 53) rfl))) (by decide) (t := (.array .byte)) (by decide) (t' := .byte) (by decide)))), F5, (((NA.ext E3).other W4 (Or.inr (slot_ne (Or.inl (hw _ (List.mem_of_getElem? (i := 78) rfl))) (Or.inl (hw _ (List.mem_of_getElem? (i := 51) rfl))) (by decide) (t := .int) (by decide) (t' := (.array .byte)) (by decide)))).other W5 (Or.inr (slot_ne (Or.inl (hw _ (List.mem_of_getElem? (i := 78) rfl))) (Or.inl (hw _ (List.mem_of_getElem? (i := 53) rfl))) (by decide) (t := .int) (by decide) (t' := .byte) (by decide)))), ((V3.other W4 (Ne.symm (Nat.ne_of_lt (Nat.lt_of_lt_of_eq EA.lt g3.symm)))).other W5 (Ne.symm (Nat.ne_of_lt (Nat.lt_of_lt_of_eq EA.lt g3.symm))))⟩) (by decide) (by decide)
abbrev own_Q_sinit (Z : State) (a : Addr) (n0 : Nat) (z : Int32) (h0 : Heap) : Option Value → Heap → List Loc → Prop := fun v h L => v = none ∧ Fr n0 L ∧ Keep h0 h [a] ∧ Exa Z h a "java/lang/StringBuilder" ∧ ∃ b' kb', h0.size ≤ b' ∧ Fld Z h a "java/lang/AbstractStringBuilder" "value" "[B" (.ref b') ∧ Fld Z h a "java/lang/AbstractStringBuilder" "coder" "B" (.int (0 : Int32)) ∧ Fld Z h a "java/lang/AbstractStringBuilder" "count" "I" (.int (Int32.ofNat 0)) ∧ Arv Z h b' kb' .byte (Int32.ofNat 16) (List.replicate 16 (.int (0 : Int32))) (.int (0 : Int32))
theorem own_d14_0 : decode jdk_67_method_1_code 0 = .ok (.aload_n 0, 1) := by decide +kernel
theorem own_d14_1 : decode jdk_67_method_1_code 1 = .ok (.bipush 16, 2) := by decide +kernel
theorem own_d14_3 : decode jdk_67_method_1_code 3 = .ok (.invokespecial 1, 3) := by decide +kernel
theorem own_d14_6 : decode jdk_67_method_1_code 6 = .ok (.return_, 1) := by decide +kernel
set_option maxRecDepth 65536 in
set_option maxHeartbeats 40000000 in
theorem own_rm_sinit (l : Launch) (Z : State) (a0 : Array Value) (hw : ∀ d ∈ tables_1, d.before a0 Z = true) (ws : List Jvm.Cond) (a : Addr) (n0 : Nat) (z : Int32) (h0 : Heap) (EA : Exa Z h0 a "java/lang/StringBuilder") (FA : Fld Z h0 a "java/lang/AbstractStringBuilder" "value" "[B" .null) (CA : Fld Z h0 a "java/lang/AbstractStringBuilder" "coder" "B" (.int (0 : Int32))) (NA : Fld Z h0 a "java/lang/AbstractStringBuilder" "count" "I" (.int (0 : Int32))) (Z0 : n0 ≤ h0.size) (ga : n0 ≤ a) (X00 : Old Z n0 h0) (O : Sta Z Z.heap "java/lang/String" "COMPACT_STRINGS" "Z" (.int z)) (hz : ¬ z = (0 : Int32)) :
    MetFree l (⟨"java/lang/StringBuilder", "<init>", "()V"⟩ : MethodName) (head1 (Jvm.Cond.code (⟨"java/lang/StringBuilder", "<init>", "()V"⟩ : MethodName) jdk_67_method_1_code 1 none :: ws) ({ frames := 2, cells := 1, slots := 16, locals := 25 } : Room)) (fun aa U => aa = #[(.ref a)] ∧ Z.Warmed39 U.vm ∧ U.heap = h0) (fun _ _ _ _ _ => True) (fun _ U o_ U' => ∃ v L, o_ = .returned v ∧ (own_Q_sinit Z a n0 z h0) v U'.heap L ∧ FrameEnd U o_ U' L ({ frames := 2, cells := 1, slots := 16, locals := 25 } : Room).cells ({ frames := 2, cells := 1, slots := 16, locals := 25 } : Room).slots) := by
  refine MetFree.of_bodySF (plainFor_of_name own_pn4) hisR ?_
  intro p e s m args below meth c s₁ Bd hml0 hP hK
  obtain ⟨rfl, hZ, hh⟩ := hP
  have hx := Bd.exec
  have hby := Bd.bytes
  have hml : c.maxLocals = 1 := hml0
  have hlk : meth.locks = false := BodyLoose.notSynchronized Bd
  have hown : s.vm.findClass "java/lang/StringBuilder" = some m.cls := findClass_of_methodNamed Bd.named
  have hnm := (name_of_methodNamed Bd.named Bd.method).1
  have X0 : Stand p l e ({ frames := 2, cells := 1, slots := 16, locals := 25 } : Room) s m #[(.ref a)] below meth c s₁ [] 0 0 := Stand.of_body Bd
  have e0 : s₁.heap = h0 := by rw [← hh, Bd.state]; rfl
  rw [own_ef0 m a]
  show own_Go p e below s ({ frames := 2, cells := 1, slots := 16, locals := 25 } : Room).cells ({ frames := 2, cells := 1, slots := 16, locals := 25 } : Room).slots (own_Q_sinit Z a n0 z h0) s₁ (mkF m 0 #[.val (.ref a)] [])
  have N0 := Fr.nil n0
  refine own_st (g' := (mkF m 3 #[.val (.ref a)] [(.int (16 : Int32)), (.ref a)])) (fun _ q => XS.aloadN X0.here hx rfl (hb hby own_d14_0) rfl rfl (XS.bipush X0.here hx rfl (hb hby own_d14_1) (q))) ?_
  have K1 : own_Bk l ({ frames := 2, cells := 1, slots := 16, locals := 25 } : Room) p e below s #[(.ref a)] (⟨"java/lang/AbstractStringBuilder", "<init>", "(I)V"⟩ : MethodName) 0 h0 #[(.ref a), (.int (16 : Int32))] 1 16 (own_Q_ainit Z a n0 z h0) := backOf (s := s) (R := ({ frames := 2, cells := 1, slots := 16, locals := 25 } : Room)) (W := 0) (Q := (own_Q_ainit Z a n0 z h0)) (rm := ({ frames := 1, cells := 1, slots := 16, locals := 12 } : Room)) (own_rm_ainit l Z a0 hw [] a n0 z h0 EA FA CA NA Z0 ga X00 O hz) hZ (hw _ (List.mem_of_getElem? (i := 47) rfl)) (hw _ (List.mem_of_getElem? (i := 46) rfl)) (by decide) (by decide)
  obtain ⟨_, L2, T2, X2, ⟨rfl, N2q, K2, E2, b2, kb2, g2, F2, Cd2, Ct2, V2⟩, st2⟩ := own_cI X0 hx hZ rfl hown (hw _ (List.mem_of_getElem? (i := 42) rfl)) (hw _ (List.mem_of_getElem? (i := 43) rfl)) (hw _ (List.mem_of_getElem? (i := 47) rfl)) (by decide) e0 (h := h0) (b := a) (argsL := [(.int (16 : Int32))]) (rest := []) K1 (pc := 3) (Ls := #[.val (.ref a)]) (by rw [hml]; rfl) (lenOf own_pd8 rfl) rfl (Nat.le_of_eq rfl) (hb hby own_d14_3) (by decide) (by decide)
  have N2 := Fr.app N0 N2q
  refine own_st (g' := (mkF m 6 #[.val (.ref a)] [])) st2 ?_
  exact own_goV X2 hlk hx Bd.returns (hb hby own_d14_6) ⟨rfl, N2, ((Keep.refl h0 [a]).trans K2 (allS (Or.inl (List.mem_of_getElem? (i := 0) rfl)) all0)), E2, b2, _, (Nat.le_trans (Nat.le_refl _) g2), F2, Cd2, Ct2, V2⟩ (by decide) (by decide)
theorem own_d15_0 : decode jdk_68_method_64_code 0 = .ok (.aload_n 0, 1) := by decide +kernel
theorem own_d15_1 : decode jdk_68_method_64_code 1 = .ok (.getfield 15, 3) := by decide +kernel
theorem own_d15_4 : decode jdk_68_method_64_code 4 = .ok (.areturn, 1) := by decide +kernel
set_option maxRecDepth 65536 in
set_option maxHeartbeats 40000000 in
theorem own_rm_getV (l : Launch) (Z : State) (a0 : Array Value) (hw : ∀ d ∈ tables_1, d.before a0 Z = true) (ws : List Jvm.Cond) (a b : Addr) (kb : ClassId) (n cap : Nat) (vs : List Value) (h0 : Heap) (EA : Exa Z h0 a "java/lang/StringBuilder") (FA : Fld Z h0 a "java/lang/AbstractStringBuilder" "value" "[B" (.ref b)) (CA : Fld Z h0 a "java/lang/AbstractStringBuilder" "coder" "B" (.int (0 : Int32))) (NA : Fld Z h0 a "java/lang/AbstractStringBuilder" "count" "I" (.int (Int32.ofNat n))) (VA : Arv Z h0 b kb .byte (Int32.ofNat cap) vs (.int (0 : Int32))) (la : vs.length = cap) (hn : n ≤ cap) :
    MetFree l (⟨"java/lang/AbstractStringBuilder", "getValue", "()[B"⟩ : MethodName) (head1 (Jvm.Cond.code (⟨"java/lang/AbstractStringBuilder", "getValue", "()[B"⟩ : MethodName) jdk_68_method_64_code 1 (some (.array .byte)) :: ws) ({ frames := 0, cells := 0, slots := 0, locals := 0 } : Room)) (fun aa U => aa = #[(.ref a)] ∧ Z.Warmed39 U.vm ∧ U.heap = h0) (fun _ _ _ _ _ => True) (fun _ U o_ U' => ∃ v L, o_ = .returned v ∧ (fun v h L => v = some (.ref b) ∧ L = [] ∧ h = h0) v U'.heap L ∧ FrameEnd U o_ U' L ({ frames := 0, cells := 0, slots := 0, locals := 0 } : Room).cells ({ frames := 0, cells := 0, slots := 0, locals := 0 } : Room).slots) := by
  refine MetFree.of_bodySF (plainFor_of_name own_pn2) hisR ?_
  intro p e s m args below meth c s₁ Bd hml0 hP hK
  obtain ⟨rfl, hZ, hh⟩ := hP
  have hx := Bd.exec
  have hby := Bd.bytes
  have hml : c.maxLocals = 1 := hml0
  have hlk : meth.locks = false := BodyLoose.notSynchronized Bd
  have hown : s.vm.findClass "java/lang/AbstractStringBuilder" = some m.cls := findClass_of_methodNamed Bd.named
  have hnm := (name_of_methodNamed Bd.named Bd.method).1
  have X0 : Stand p l e ({ frames := 0, cells := 0, slots := 0, locals := 0 } : Room) s m #[(.ref a)] below meth c s₁ [] 0 0 := Stand.of_body Bd
  have e0 : s₁.heap = h0 := by rw [← hh, Bd.state]; rfl
  rw [own_ef0 m a]
  show own_Go p e below s ({ frames := 0, cells := 0, slots := 0, locals := 0 } : Room).cells ({ frames := 0, cells := 0, slots := 0, locals := 0 } : Room).slots (fun v h L => v = some (.ref b) ∧ L = [] ∧ h = h0) s₁ (mkF m 0 #[.val (.ref a)] [])
  refine own_st (g' := (mkF m 1 #[.val (.ref a)] [(.ref a)])) (fun _ q => XS.aloadN X0.here hx rfl (hb hby own_d15_0) rfl rfl (q)) ?_
  obtain ⟨T1, X1, e1, st1⟩ := getF X0 hx hZ hown (host := "") (Or.inl (hw _ (List.mem_of_getElem? (i := 50) rfl))) Via.refl e0 FA (g := (mkF m 1 #[.val (.ref a)] [(.ref a)])) rfl rfl (hb hby own_d15_1)
  refine own_st (g' := (mkF m 4 #[.val (.ref a)] [(.ref b)])) st1 ?_
  exact own_goR X1 hlk hx (t := (.array .byte)) rfl rfl Bd.returns (hb hby own_d15_4) ⟨rfl, rfl, e1⟩ (by decide) (by decide)
theorem own_d16_0 : decode jdk_68_method_6_code 0 = .ok (.aload_n 0, 1) := by decide +kernel
theorem own_d16_1 : decode jdk_68_method_6_code 1 = .ok (.getfield 79, 3) := by decide +kernel
theorem own_d16_4 : decode jdk_68_method_6_code 4 = .ok (.ireturn, 1) := by decide +kernel
set_option maxRecDepth 65536 in
set_option maxHeartbeats 40000000 in
theorem own_rm_alen (l : Launch) (Z : State) (a0 : Array Value) (hw : ∀ d ∈ tables_1, d.before a0 Z = true) (ws : List Jvm.Cond) (a b : Addr) (kb : ClassId) (n cap : Nat) (vs : List Value) (h0 : Heap) (EA : Exa Z h0 a "java/lang/StringBuilder") (FA : Fld Z h0 a "java/lang/AbstractStringBuilder" "value" "[B" (.ref b)) (CA : Fld Z h0 a "java/lang/AbstractStringBuilder" "coder" "B" (.int (0 : Int32))) (NA : Fld Z h0 a "java/lang/AbstractStringBuilder" "count" "I" (.int (Int32.ofNat n))) (VA : Arv Z h0 b kb .byte (Int32.ofNat cap) vs (.int (0 : Int32))) (la : vs.length = cap) (hn : n ≤ cap) :
    MetFree l (⟨"java/lang/AbstractStringBuilder", "length", "()I"⟩ : MethodName) (head1 (Jvm.Cond.code (⟨"java/lang/AbstractStringBuilder", "length", "()I"⟩ : MethodName) jdk_68_method_6_code 1 (some .int) :: ws) ({ frames := 0, cells := 0, slots := 0, locals := 0 } : Room)) (fun aa U => aa = #[(.ref a)] ∧ Z.Warmed39 U.vm ∧ U.heap = h0) (fun _ _ _ _ _ => True) (fun _ U o_ U' => ∃ v L, o_ = .returned v ∧ (fun v h L => v = some (.int (Int32.ofNat n)) ∧ L = [] ∧ h = h0) v U'.heap L ∧ FrameEnd U o_ U' L ({ frames := 0, cells := 0, slots := 0, locals := 0 } : Room).cells ({ frames := 0, cells := 0, slots := 0, locals := 0 } : Room).slots) := by
  refine MetFree.of_bodySF (plainFor_of_name own_pn2) hisR ?_
  intro p e s m args below meth c s₁ Bd hml0 hP hK
  obtain ⟨rfl, hZ, hh⟩ := hP
  have hx := Bd.exec
  have hby := Bd.bytes
  have hml : c.maxLocals = 1 := hml0
  have hlk : meth.locks = false := BodyLoose.notSynchronized Bd
  have hown : s.vm.findClass "java/lang/AbstractStringBuilder" = some m.cls := findClass_of_methodNamed Bd.named
  have hnm := (name_of_methodNamed Bd.named Bd.method).1
  have X0 : Stand p l e ({ frames := 0, cells := 0, slots := 0, locals := 0 } : Room) s m #[(.ref a)] below meth c s₁ [] 0 0 := Stand.of_body Bd
  have e0 : s₁.heap = h0 := by rw [← hh, Bd.state]; rfl
  rw [own_ef0 m a]
  show own_Go p e below s ({ frames := 0, cells := 0, slots := 0, locals := 0 } : Room).cells ({ frames := 0, cells := 0, slots := 0, locals := 0 } : Room).slots (fun v h L => v = some (.int (Int32.ofNat n)) ∧ L = [] ∧ h = h0) s₁ (mkF m 0 #[.val (.ref a)] [])
  refine own_st (g' := (mkF m 1 #[.val (.ref a)] [(.ref a)])) (fun _ q => XS.aloadN X0.here hx rfl (hb hby own_d16_0) rfl rfl (q)) ?_
  obtain ⟨T1, X1, e1, st1⟩ := getF X0 hx hZ hown (host := "") (Or.inl (hw _ (List.mem_of_getElem? (i := 77) rfl))) Via.refl e0 NA (g := (mkF m 1 #[.val (.ref a)] [(.ref a)])) rfl rfl (hb hby own_d16_1)
  refine own_st (g' := (mkF m 4 #[.val (.ref a)] [(.int (Int32.ofNat n))])) st1 ?_
  exact own_goI X1 hlk hx Bd.returns (hb hby own_d16_4) ⟨rfl, rfl, e1⟩ (by decide) (by decide)
theorem own_d17_0 : decode jdk_67_method_93_code 0 = .ok (.aload_n 0, 1) := by decide +kernel
theorem own_d17_1 : decode jdk_67_method_93_code 1 = .ok (.invokespecial 343, 3) := by decide +kernel
theorem own_d17_4 : decode jdk_67_method_93_code 4 = .ok (.ireturn, 1) := by decide +kernel
set_option maxRecDepth 65536 in
set_option maxHeartbeats 40000000 in
theorem own_rm_blen (l : Launch) (Z : State) (a0 : Array Value) (hw : ∀ d ∈ tables_1, d.before a0 Z = true) (ws : List Jvm.Cond) (a b : Addr) (kb : ClassId) (n cap : Nat) (vs : List Value) (h0 : Heap) (EA : Exa Z h0 a "java/lang/StringBuilder") (FA : Fld Z h0 a "java/lang/AbstractStringBuilder" "value" "[B" (.ref b)) (CA : Fld Z h0 a "java/lang/AbstractStringBuilder" "coder" "B" (.int (0 : Int32))) (NA : Fld Z h0 a "java/lang/AbstractStringBuilder" "count" "I" (.int (Int32.ofNat n))) (VA : Arv Z h0 b kb .byte (Int32.ofNat cap) vs (.int (0 : Int32))) (la : vs.length = cap) (hn : n ≤ cap) :
    MetFree l (⟨"java/lang/StringBuilder", "length", "()I"⟩ : MethodName) (head1 (Jvm.Cond.code (⟨"java/lang/StringBuilder", "length", "()I"⟩ : MethodName) jdk_67_method_93_code 1 (some .int) :: ws) ({ frames := 1, cells := 0, slots := 0, locals := 12 } : Room)) (fun aa U => aa = #[(.ref a)] ∧ Z.Warmed39 U.vm ∧ U.heap = h0) (fun _ _ _ _ _ => True) (fun _ U o_ U' => ∃ v L, o_ = .returned v ∧ (fun v h L => v = some (.int (Int32.ofNat n)) ∧ L = [] ∧ h = h0) v U'.heap L ∧ FrameEnd U o_ U' L ({ frames := 1, cells := 0, slots := 0, locals := 12 } : Room).cells ({ frames := 1, cells := 0, slots := 0, locals := 12 } : Room).slots) := by
  refine MetFree.of_bodySF (plainFor_of_name own_pn4) hisR ?_
  intro p e s m args below meth c s₁ Bd hml0 hP hK
  obtain ⟨rfl, hZ, hh⟩ := hP
  have hx := Bd.exec
  have hby := Bd.bytes
  have hml : c.maxLocals = 1 := hml0
  have hlk : meth.locks = false := BodyLoose.notSynchronized Bd
  have hown : s.vm.findClass "java/lang/StringBuilder" = some m.cls := findClass_of_methodNamed Bd.named
  have hnm := (name_of_methodNamed Bd.named Bd.method).1
  have X0 : Stand p l e ({ frames := 1, cells := 0, slots := 0, locals := 12 } : Room) s m #[(.ref a)] below meth c s₁ [] 0 0 := Stand.of_body Bd
  have e0 : s₁.heap = h0 := by rw [← hh, Bd.state]; rfl
  rw [own_ef0 m a]
  show own_Go p e below s ({ frames := 1, cells := 0, slots := 0, locals := 12 } : Room).cells ({ frames := 1, cells := 0, slots := 0, locals := 12 } : Room).slots (fun v h L => v = some (.int (Int32.ofNat n)) ∧ L = [] ∧ h = h0) s₁ (mkF m 0 #[.val (.ref a)] [])
  refine own_st (g' := (mkF m 1 #[.val (.ref a)] [(.ref a)])) (fun _ q => XS.aloadN X0.here hx rfl (hb hby own_d17_0) rfl rfl (q)) ?_
  have K1 : own_Bk l ({ frames := 1, cells := 0, slots := 0, locals := 12 } : Room) p e below s #[(.ref a)] (⟨"java/lang/AbstractStringBuilder", "length", "()I"⟩ : MethodName) 0 h0 #[(.ref a)] 0 0 (fun v h L => v = some (.int (Int32.ofNat n)) ∧ L = [] ∧ h = h0) := backOf (s := s) (R := ({ frames := 1, cells := 0, slots := 0, locals := 12 } : Room)) (W := 0) (Q := (fun v h L => v = some (.int (Int32.ofNat n)) ∧ L = [] ∧ h = h0)) (rm := ({ frames := 0, cells := 0, slots := 0, locals := 0 } : Room)) (own_rm_alen l Z a0 hw [] a b kb n cap vs  h0 EA FA CA NA VA la (by omega) ) hZ (hw _ (List.mem_of_getElem? (i := 152) rfl)) (hw _ (List.mem_of_getElem? (i := 46) rfl)) (by decide) (by decide)
  obtain ⟨T2, X2, e2, st2⟩ := own_pure (own_cU X0 hx hZ hown (hw _ (List.mem_of_getElem? (i := 151) rfl)) (own_same (hw _ (List.mem_of_getElem? (i := 82) rfl)) rfl (hw _ (List.mem_of_getElem? (i := 147) rfl)) (by decide)) (hw _ (List.mem_of_getElem? (i := 147) rfl)) (hw _ (List.mem_of_getElem? (i := 64) rfl)) (hw _ (List.mem_of_getElem? (i := 152) rfl)) (by decide) e0 (h := h0) (b := a) EA (argsL := []) (rest := []) K1 (pc := 1) (Ls := #[.val (.ref a)]) (by rw [hml]; rfl) (lenOf own_pd7 rfl) rfl (Nat.le_of_eq rfl) (hb hby own_d17_1) (by decide) (by decide))
  refine own_st (g' := (mkF m 4 #[.val (.ref a)] [(.int (Int32.ofNat n))])) st2 ?_
  exact own_goI X2 hlk hx Bd.returns (hb hby own_d17_4) ⟨rfl, rfl, e2⟩ (by decide) (by decide)
theorem own_d18_0 : decode jdk_68_method_68_code 0 = .ok (.getstatic 18, 3) := by decide +kernel
theorem own_d18_3 : decode jdk_68_method_68_code 3 = .ok (.ifCond .eq 14, 3) := by decide +kernel
theorem own_d18_6 : decode jdk_68_method_68_code 6 = .ok (.aload_n 0, 1) := by decide +kernel
theorem own_d18_7 : decode jdk_68_method_68_code 7 = .ok (.getfield 22, 3) := by decide +kernel
theorem own_d18_10 : decode jdk_68_method_68_code 10 = .ok (.ifCond .ne 7, 3) := by decide +kernel
theorem own_d18_13 : decode jdk_68_method_68_code 13 = .ok (.iconst 1, 1) := by decide +kernel
theorem own_d18_14 : decode jdk_68_method_68_code 14 = .ok (.goto 4, 3) := by decide +kernel
theorem own_d18_18 : decode jdk_68_method_68_code 18 = .ok (.ireturn, 1) := by decide +kernel
set_option maxRecDepth 65536 in
set_option maxHeartbeats 40000000 in
theorem own_rm_isL1 (l : Launch) (Z : State) (a0 : Array Value) (hw : ∀ d ∈ tables_1, d.before a0 Z = true) (ws : List Jvm.Cond) (a b : Addr) (kb : ClassId) (n cap : Nat) (vs : List Value) (z : Int32) (n0 : Nat) (h0 : Heap) (EA : Exa Z h0 a "java/lang/StringBuilder") (FA : Fld Z h0 a "java/lang/AbstractStringBuilder" "value" "[B" (.ref b)) (CA : Fld Z h0 a "java/lang/AbstractStringBuilder" "coder" "B" (.int (0 : Int32))) (NA : Fld Z h0 a "java/lang/AbstractStringBuilder" "count" "I" (.int (Int32.ofNat n))) (VA : Arv Z h0 b kb .byte (Int32.ofNat cap) vs (.int (0 : Int32))) (la : vs.length = cap) (hn : n ≤ cap) (O : Sta Z Z.heap "java/lang/String" "COMPACT_STRINGS" "Z" (.int z)) (hz : ¬ z = (0 : Int32)) (X00 : Old Z n0 h0) :
    MetFree l (⟨"java/lang/AbstractStringBuilder", "isLatin1", "()Z"⟩ : MethodName) (head1 (Jvm.Cond.code (⟨"java/lang/AbstractStringBuilder", "isLatin1", "()Z"⟩ : MethodName) jdk_68_method_68_code 1 (some .boolean) :: ws) ({ frames := 0, cells := 0, slots := 0, locals := 0 } : Room)) (fun aa U => aa = #[(.ref a)] ∧ Z.Warmed39 U.vm ∧ U.heap = h0) (fun _ _ _ _ _ => True) (fun _ U o_ U' => ∃ v L, o_ = .returned v ∧ (fun v h L => v = some (.int (1 : Int32)) ∧ L = [] ∧ h = h0) v U'.heap L ∧ FrameEnd U o_ U' L ({ frames := 0, cells := 0, slots := 0, locals := 0 } : Room).cells ({ frames := 0, cells := 0, slots := 0, locals := 0 } : Room).slots) := by
  refine MetFree.of_bodySF (plainFor_of_name own_pn2) hisR ?_
  intro p e s m args below meth c s₁ Bd hml0 hP hK
  obtain ⟨rfl, hZ, hh⟩ := hP
  have hx := Bd.exec
  have hby := Bd.bytes
  have hml : c.maxLocals = 1 := hml0
  have hlk : meth.locks = false := BodyLoose.notSynchronized Bd
  have hown : s.vm.findClass "java/lang/AbstractStringBuilder" = some m.cls := findClass_of_methodNamed Bd.named
  have hnm := (name_of_methodNamed Bd.named Bd.method).1
  have X0 : Stand p l e ({ frames := 0, cells := 0, slots := 0, locals := 0 } : Room) s m #[(.ref a)] below meth c s₁ [] 0 0 := Stand.of_body Bd
  have e0 : s₁.heap = h0 := by rw [← hh, Bd.state]; rfl
  rw [own_ef0 m a]
  show own_Go p e below s ({ frames := 0, cells := 0, slots := 0, locals := 0 } : Room).cells ({ frames := 0, cells := 0, slots := 0, locals := 0 } : Room).slots (fun v h L => v = some (.int (1 : Int32)) ∧ L = [] ∧ h = h0) s₁ (mkF m 0 #[.val (.ref a)] [])
  have N0 := Fr.nil n0
  obtain ⟨T1, X1, e1, st1⟩ := getS2 X0 hx hZ hown (host := "") (Or.inl (hw _ (List.mem_of_getElem? (i := 49) rfl))) Via.refl e0 (O.ext X00.2) (g := (mkF m 0 #[.val (.ref a)] [])) rfl (hb hby own_d18_0)
  refine own_st (g' := (mkF m 3 #[.val (.ref a)] [(.int z)])) st1 ?_
  refine own_st (g' := (mkF m 7 #[.val (.ref a)] [(.ref a)])) (fun _ q => XS.ifNo X1.here hx rfl (hb hby own_d18_3) rfl ((if0 _ _).trans (feq hz).1) (XS.aloadN X1.here hx rfl (hb hby own_d18_6) rfl rfl (q))) ?_
  obtain ⟨T2, X2, e2, st2⟩ := getF X1 hx hZ hown (host := "") (Or.inl (hw _ (List.mem_of_getElem? (i := 52) rfl))) Via.refl e1 CA (g := (mkF m 7 #[.val (.ref a)] [(.ref a)])) rfl rfl (hb hby own_d18_7)
  refine own_st (g' := (mkF m 10 #[.val (.ref a)] [(.int (0 : Int32))])) st2 ?_
  refine own_st (g' := (mkF m 18 #[.val (.ref a)] [(.int (1 : Int32))])) (fun _ q => XS.ifNo X2.here hx rfl (hb hby own_d18_10) rfl ((if0 _ _).trans (teq (by decide : (0 : Int32) = (0 : Int32))).2) (XS.iconst X2.here hx rfl (hb hby own_d18_13) (XS.goto X2.here hx rfl (pc0 := 14) (pc' := 18) rfl (hb hby own_d18_14) (by decide) (by decide) (q)))) ?_
  exact own_goN X2 hlk hx (t := .boolean) (by simp) Bd.returns (hb hby own_d18_18) ⟨rfl, rfl, e2⟩ (by decide) (by decide)
theorem own_d19_0 : decode jdk_65_method_131_code 0 = .ok (.iload_n 1, 1) := by decide +kernel
theorem own_d19_1 : decode jdk_65_method_131_code 1 = .ok (.iload_n 0, 1) := by decide +kernel
theorem own_d19_2 : decode jdk_65_method_131_code 2 = .ok (.if_icmp .ge 35, 3) := by decide +kernel
theorem own_d19_37 : decode jdk_65_method_131_code 37 = .ok (.return_, 1) := by decide +kernel
set_option maxRecDepth 65536 in
set_option maxHeartbeats 40000000 in
theorem own_rm_chkL (l : Launch) (Z : State) (a0 : Array Value) (hw : ∀ d ∈ tables_1, d.before a0 Z = true) (ws : List Jvm.Cond) (i j : Nat) (h0 : Heap) (hij : i ≤ j) (hj : j < 2 ^ 30) :
    MetFree l (⟨"java/util/Arrays", "checkLength", "(II)V"⟩ : MethodName) (head1 (Jvm.Cond.code (⟨"java/util/Arrays", "checkLength", "(II)V"⟩ : MethodName) jdk_65_method_131_code 2 none :: ws) ({ frames := 0, cells := 0, slots := 0, locals := 0 } : Room)) (fun aa U => aa = #[(.int (Int32.ofNat i)), (.int (Int32.ofNat j))] ∧ Z.Warmed39 U.vm ∧ U.heap = h0) (fun _ _ _ _ _ => True) (fun _ U o_ U' => ∃ v L, o_ = .returned v ∧ (fun v h L => v = none ∧ L = [] ∧ h = h0) v U'.heap L ∧ FrameEnd U o_ U' L ({ frames := 0, cells := 0, slots := 0, locals := 0 } : Room).cells ({ frames := 0, cells := 0, slots := 0, locals := 0 } : Room).slots) := by
  refine MetFree.of_bodySF (plainFor_of_name own_pn3) hisR ?_
  intro p e s m args below meth c s₁ Bd hml0 hP hK
  obtain ⟨rfl, hZ, hh⟩ := hP
  have hx := Bd.exec
  have hby := Bd.bytes
  have hml : c.maxLocals = 2 := hml0
  have hlk : meth.locks = false := BodyLoose.notSynchronized Bd
  have hown : s.vm.findClass "java/util/Arrays" = some m.cls := findClass_of_methodNamed Bd.named
  have hnm := (name_of_methodNamed Bd.named Bd.method).1
  have X0 : Stand p l e ({ frames := 0, cells := 0, slots := 0, locals := 0 } : Room) s m #[(.int (Int32.ofNat i)), (.int (Int32.ofNat j))] below meth c s₁ [] 0 0 := Stand.of_body Bd
  have e0 : s₁.heap = h0 := by rw [← hh, Bd.state]; rfl
  rw [own_ef1 m (Int32.ofNat i) (Int32.ofNat j)]
  show own_Go p e below s ({ frames := 0, cells := 0, slots := 0, locals := 0 } : Room).cells ({ frames := 0, cells := 0, slots := 0, locals := 0 } : Room).slots (fun v h L => v = none ∧ L = [] ∧ h = h0) s₁ (mkF m 0 #[.val (.int (Int32.ofNat i)), .val (.int (Int32.ofNat j))] [])
  refine own_st (g' := (mkF m 37 #[.val (.int (Int32.ofNat i)), .val (.int (Int32.ofNat j))] [])) (fun _ q => XS.iloadN X0.here hx rfl (hb hby own_d19_0) rfl (XS.iloadN X0.here hx rfl (hb hby own_d19_1) rfl (XS.icmpYes X0.here hx rfl (pc0 := 2) (pc' := 37) rfl (hb hby own_d19_2) rfl (flt (own_nltN (i := j) (j := i) (by omega) (by omega) : ¬ (Int32.ofNat j) < (Int32.ofNat i))).2.1 (by decide) (by decide) (q)))) ?_
  exact own_goV X0 hlk hx Bd.returns (hb hby own_d19_37) ⟨rfl, rfl, e0⟩ (by decide) (by decide)
theorem own_ef10 (m : MethodId) (x0 : Addr) (x1 : Int32) (x2 : Int32) : entryFrame m #[(.ref x0), (.int x1), (.int x2)] 5 = mkF m 0 #[.val (.ref x0), .val (.int x1), .val (.int x2), .unset, .unset] [] := by first | (simp [entryFrame, mkF, argsToLocals, Value.category, maxLocals]; done) | rfl
abbrev own_Q_cpRB (Z : State) (b : Addr) (kb : ClassId) (n cap n0 : Nat) (vs : List Value) (h0 : Heap) : Option Value → Heap → List Loc → Prop := fun v h L => Fr n0 L ∧ Keep h0 h [] ∧ ∃ b' kb', v = some (.ref b') ∧ h0.size ≤ b' ∧ Arv Z h b' kb' .byte (Int32.ofNat n) (vs.take n) (.int (0 : Int32))
theorem own_d20_0 : decode jdk_65_method_133_code 0 = .ok (.iload_n 1, 1) := by decide +kernel
theorem own_d20_1 : decode jdk_65_method_133_code 1 = .ok (.iload_n 2, 1) := by decide +kernel
theorem own_d20_2 : decode jdk_65_method_133_code 2 = .ok (.invokestatic 343, 3) := by decide +kernel
theorem own_pd11 : parseMethodDescriptor "(II)V" = some ⟨[.int, .int], none⟩ := by decide +kernel
theorem own_d20_5 : decode jdk_65_method_133_code 5 = .ok (.iload_n 2, 1) := by decide +kernel
theorem own_d20_6 : decode jdk_65_method_133_code 6 = .ok (.iload_n 1, 1) := by decide +kernel
theorem own_d20_7 : decode jdk_65_method_133_code 7 = .ok (.isub, 1) := by decide +kernel
theorem own_d20_8 : decode jdk_65_method_133_code 8 = .ok (.istore_n 3, 1) := by decide +kernel
theorem own_d20_9 : decode jdk_65_method_133_code 9 = .ok (.iload_n 3, 1) := by decide +kernel
theorem own_d20_10 : decode jdk_65_method_133_code 10 = .ok (.newarray .byte, 2) := by decide +kernel
theorem own_d20_12 : decode jdk_65_method_133_code 12 = .ok (.astore 4, 2) := by decide +kernel
theorem own_d20_14 : decode jdk_65_method_133_code 14 = .ok (.aload_n 0, 1) := by decide +kernel
theorem own_d20_15 : decode jdk_65_method_133_code 15 = .ok (.iload_n 1, 1) := by decide +kernel
theorem own_d20_16 : decode jdk_65_method_133_code 16 = .ok (.aload 4, 2) := by decide +kernel
theorem own_d20_18 : decode jdk_65_method_133_code 18 = .ok (.iconst 0, 1) := by decide +kernel
theorem own_d20_19 : decode jdk_65_method_133_code 19 = .ok (.aload_n 0, 1) := by decide +kernel
theorem own_d20_20 : decode jdk_65_method_133_code 20 = .ok (.arraylength, 1) := by decide +kernel
theorem own_d20_21 : decode jdk_65_method_133_code 21 = .ok (.iload_n 1, 1) := by decide +kernel
theorem own_d20_22 : decode jdk_65_method_133_code 22 = .ok (.isub, 1) := by decide +kernel
theorem own_d20_23 : decode jdk_65_method_133_code 23 = .ok (.iload_n 3, 1) := by decide +kernel
theorem own_d20_24 : decode jdk_65_method_133_code 24 = .ok (.invokestatic 304, 3) := by decide +kernel
theorem own_d20_27 : decode jdk_65_method_133_code 27 = .ok (.invokestatic 150, 3) := by decide +kernel
theorem own_d20_30 : decode jdk_65_method_133_code 30 = .ok (.aload 4, 2) := by decide +kernel
theorem own_d20_32 : decode jdk_65_method_133_code 32 = .ok (.areturn, 1) := by decide +kernel
set_option maxRecDepth 65536 in
set_option maxHeartbeats 40000000 in
theorem own_rm_cpRB (l : Launch) (Z : State) (a0 : Array Value) (hw : ∀ d ∈ tables_1, d.before a0 Z = true) (ws : List Jvm.Cond) (b : Addr) (kb : ClassId) (n cap n0 : Nat) (vs : List Value) (h0 : Heap) (Z0 : n0 ≤ h0.size) (VA : Arv Z h0 b kb .byte (Int32.ofNat cap) vs (.int (0 : Int32))) (la : vs.length = cap) (hn : n ≤ cap) (hK : cap ≤ 100000) (hnK : n ≤ 128) :
    MetFree l (⟨"java/util/Arrays", "copyOfRangeByte", "([BII)[B"⟩ : MethodName) (head1 (Jvm.Cond.code (⟨"java/util/Arrays", "copyOfRangeByte", "([BII)[B"⟩ : MethodName) jdk_65_method_133_code 5 (some (.array .byte)) :: ws) ({ frames := 1, cells := 1, slots := 128, locals := 21 } : Room)) (fun aa U => aa = #[(.ref b), (.int (0 : Int32)), (.int (Int32.ofNat n))] ∧ Z.Warmed39 U.vm ∧ U.heap = h0) (fun _ _ _ _ _ => True) (fun _ U o_ U' => ∃ v L, o_ = .returned v ∧ (own_Q_cpRB Z b kb n cap n0 vs h0) v U'.heap L ∧ FrameEnd U o_ U' L ({ frames := 1, cells := 1, slots := 128, locals := 21 } : Room).cells ({ frames := 1, cells := 1, slots := 128, locals := 21 } : Room).slots) := by
  refine MetFree.of_bodySF (plainFor_of_name own_pn3) hisR ?_
  intro p e s m args below meth c s₁ Bd hml0 hP hK
  obtain ⟨rfl, hZ, hh⟩ := hP
  have hx := Bd.exec
  have hby := Bd.bytes
  have hml : c.maxLocals = 5 := hml0
  have hlk : meth.locks = false := BodyLoose.notSynchronized Bd
  have hown : s.vm.findClass "java/util/Arrays" = some m.cls := findClass_of_methodNamed Bd.named
  have hnm := (name_of_methodNamed Bd.named Bd.method).1
  have X0 : Stand p l e ({ frames := 1, cells := 1, slots := 128, locals := 21 } : Room) s m #[(.ref b), (.int (0 : Int32)), (.int (Int32.ofNat n))] below meth c s₁ [] 0 0 := Stand.of_body Bd
  have e0 : s₁.heap = h0 := by rw [← hh, Bd.state]; rfl
  rw [own_ef10 m b (0 : Int32) (Int32.ofNat n)]
  show own_Go p e below s ({ frames := 1, cells := 1, slots := 128, locals := 21 } : Room).cells ({ frames := 1, cells := 1, slots := 128, locals := 21 } : Room).slots (own_Q_cpRB Z b kb n cap n0 vs h0) s₁ (mkF m 0 #[.val (.ref b), .val (.int (0 : Int32)), .val (.int (Int32.ofNat n)), .unset, .unset] [])
  have N0 := Fr.nil n0
  refine own_st (g' := (mkF m 2 #[.val (.ref b), .val (.int (0 : Int32)), .val (.int (Int32.ofNat n)), .unset, .unset] [(.int (Int32.ofNat n)), (.int (0 : Int32))])) (fun _ q => XS.iloadN X0.here hx rfl (hb hby own_d20_0) rfl (XS.iloadN X0.here hx rfl (hb hby own_d20_1) rfl (q))) ?_
  have K1 : own_Bk l ({ frames := 1, cells := 1, slots := 128, locals := 21 } : Room) p e below s #[(.ref b), (.int (0 : Int32)), (.int (Int32.ofNat n))] (⟨"java/util/Arrays", "checkLength", "(II)V"⟩ : MethodName) 0 h0 #[(.int (0 : Int32)), (.int (Int32.ofNat n))] 0 0 (fun v h L => v = none ∧ L = [] ∧ h = h0) := backOf (s := s) (R := ({ frames := 1, cells := 1, slots := 128, locals := 21 } : Room)) (W := 0) (Q := (fun v h L => v = none ∧ L = [] ∧ h = h0)) (rm := ({ frames := 0, cells := 0, slots := 0, locals := 0 } : Room)) (own_rm_chkL l Z a0 hw [] (0) (n)  h0 (by omega) (by omega) ) hZ (hw _ (List.mem_of_getElem? (i := 166) rfl)) (hw _ (List.mem_of_getElem? (i := 122) rfl)) (by decide) (by decide)
  obtain ⟨T2, X2, e2, st2⟩ := own_pure (own_cS X0 hx hZ hown (hw _ (List.mem_of_getElem? (i := 164) rfl)) (hw _ (List.mem_of_getElem? (i := 165) rfl)) (hw _ (List.mem_of_getElem? (i := 122) rfl)) (hw _ (List.mem_of_getElem? (i := 166) rfl)) (by decide) e0 (h := h0) (argsL := [(.int (0 : Int32)), (.int (Int32.ofNat n))]) (rest := []) K1 (pc := 2) (Ls := #[.val (.ref b), .val (.int (0 : Int32)), .val (.int (Int32.ofNat n)), .unset, .unset]) (by rw [hml]; rfl) (lenOf own_pd11 rfl) rfl (Nat.le_of_eq rfl) (hb hby own_d20_2) (by decide) (by decide))
  refine own_st (g' := (mkF m 5 #[.val (.ref b), .val (.int (0 : Int32)), .val (.int (Int32.ofNat n)), .unset, .unset] [])) st2 ?_
  refine own_st (g' := (mkF m 8 #[.val (.ref b), .val (.int (0 : Int32)), .val (.int (Int32.ofNat n)), .unset, .unset] [(.int ((Int32.ofNat n) - (0 : Int32)))])) (fun _ q => XS.iloadN X2.here hx rfl (hb hby own_d20_5) rfl (XS.iloadN X2.here hx rfl (hb hby own_d20_6) rfl (XS.isub X2.here hx rfl (hb hby own_d20_7) rfl (q)))) ?_
  rw [own_sub0 (Int32.ofNat (n))]
  refine own_st (g' := (mkF m 10 #[.val (.ref b), .val (.int (0 : Int32)), .val (.int (Int32.ofNat n)), .val (.int (Int32.ofNat n)), .unset] [(.int (Int32.ofNat n))])) (fun _ q => XS.istoreN X2.here hx rfl (hb hby own_d20_8) rfl (l' := #[.val (.ref b), .val (.int (0 : Int32)), .val (.int (Int32.ofNat n)), .val (.int (Int32.ofNat n)), .unset]) rfl (XS.iloadN X2.here hx rfl (hb hby own_d20_9) rfl (q))) ?_
  obtain ⟨T3, h3, k3, X3, e3, E3, A3, st3⟩ := newP X2 hx hZ (hw _ (List.mem_of_getElem? (i := 19) rfl)) e2 (g := (mkF m 10 #[.val (.ref b), .val (.int (0 : Int32)), .val (.int (Int32.ofNat n)), .val (.int (Int32.ofNat n)), .unset] [(.int (Int32.ofNat n))])) rfl (hb hby own_d20_10) rfl (own_nnN (by omega)) (cap := 128) (by rw [own_clN (by omega)]; omega) (by decide) (by decide) (by decide)
  obtain ⟨b3, g3⟩ : ∃ z, z = h0.size := ⟨_, rfl⟩
  rw [← g3] at A3 st3
  have V3 : Arv Z h3 b3 k3 .byte (Int32.ofNat n) (List.replicate n (.int (0 : Int32))) (.int (0 : Int32)) := (Arv.new A3 (own_nnN (by omega))).pad (pad_rep [] (.int (0 : Int32)) n)
  refine own_st (g' := (mkF m 12 #[.val (.ref b), .val (.int (0 : Int32)), .val (.int (Int32.ofNat n)), .val (.int (Int32.ofNat n)), .unset] [(.ref b3)])) st3 ?_
  refine own_st (g' := (mkF m 20 #[.val (.ref b), .val (.int (0 : Int32)), .val (.int (Int32.ofNat n)), .val (.int (Int32.ofNat n)), .val (.ref b3)] [(.ref b), (.int (0 : Int32)), (.ref b3), (.int (0 : Int32)), (.ref b)])) (fun _ q => XS.astore X3.here hx rfl (hb hby own_d20_12) rfl rfl (l' := #[.val (.ref b), .val (.int (0 : Int32)), .val (.int (Int32.ofNat n)), .val (.int (Int32.ofNat n)), .val (.ref b3)]) rfl (XS.aloadN X3.here hx rfl (hb hby own_d20_14) rfl rfl (XS.iloadN X3.here hx rfl (hb hby own_d20_15) rfl (XS.aload X3.here hx rfl (hb hby own_d20_16) rfl rfl (XS.iconst X3.here hx rfl (hb hby own_d20_18) (XS.aloadN X3.here hx rfl (hb hby own_d20_19) rfl rfl (q))))))) ?_
  refine own_st (g' := (mkF m 21 #[.val (.ref b), .val (.int (0 : Int32)), .val (.int (Int32.ofNat n)), .val (.int (Int32.ofNat n)), .val (.ref b3)] [(.int (Int32.ofNat cap)), (.int (0 : Int32)), (.ref b3), (.int (0 : Int32)), (.ref b)])) (own_alen X3 hx hZ e3 (VA.ext E3) (hb hby own_d20_20)) ?_
  refine own_st (g' := (mkF m 23 #[.val (.ref b), .val (.int (0 : Int32)), .val (.int (Int32.ofNat n)), .val (.int (Int32.ofNat n)), .val (.ref b3)] [(.int ((Int32.ofNat cap) - (0 : Int32))), (.int (0 : Int32)), (.ref b3), (.int (0 : Int32)), (.ref b)])) (fun _ q => XS.iloadN X3.here hx rfl (hb hby own_d20_21) rfl (XS.isub X3.here hx rfl (hb hby own_d20_22) rfl (q))) ?_
  rw [own_sub0 (Int32.ofNat (cap))]
  refine own_st (g' := (mkF m 24 #[.val (.ref b), .val (.int (0 : Int32)), .val (.int (Int32.ofNat n)), .val (.int (Int32.ofNat n)), .val (.ref b3)] [(.int (Int32.ofNat n)), (.int (Int32.ofNat cap)), (.int (0 : Int32)), (.ref b3), (.int (0 : Int32)), (.ref b)])) (fun _ q => XS.iloadN X3.here hx rfl (hb hby own_d20_23) rfl (q)) ?_
  have K4 : own_Bk l ({ frames := 1, cells := 1, slots := 128, locals := 21 } : Room) p e below s #[(.ref b), (.int (0 : Int32)), (.int (Int32.ofNat n))] (⟨"java/lang/Math", "min", "(II)I"⟩ : MethodName) 4 h3 #[(.int (Int32.ofNat cap)), (.int (Int32.ofNat n))] 0 0 (fun v h L => v = some (.int (Int32.ofNat (min (cap) (n)))) ∧ L = [] ∧ h = h3) := backOf (s := s) (R := ({ frames := 1, cells := 1, slots := 128, locals := 21 } : Room)) (W := 4) (Q := (fun v h L => v = some (.int (Int32.ofNat (min (cap) (n)))) ∧ L = [] ∧ h = h3)) (rm := ({ frames := 0, cells := 0, slots := 0, locals := 0 } : Room)) (own_rm_minN l Z a0 hw [] (cap) (n)  h3 (by omega) (by omega) ) hZ (hw _ (List.mem_of_getElem? (i := 126) rfl)) (hw _ (List.mem_of_getElem? (i := 116) rfl)) (by decide) (by decide)
  obtain ⟨T5, X5, e5, st5⟩ := own_pure (own_cS X3 hx hZ hown (hw _ (List.mem_of_getElem? (i := 124) rfl)) (hw _ (List.mem_of_getElem? (i := 125) rfl)) (hw _ (List.mem_of_getElem? (i := 116) rfl)) (hw _ (List.mem_of_getElem? (i := 126) rfl)) (by decide) e3 (h := h3) (argsL := [(.int (Int32.ofNat cap)), (.int (Int32.ofNat n))]) (rest := [(.int (0 : Int32)), (.ref b3), (.int (0 : Int32)), (.ref b)]) K4 (pc := 24) (Ls := #[.val (.ref b), .val (.int (0 : Int32)), .val (.int (Int32.ofNat n)), .val (.int (Int32.ofNat n)), .val (.ref b3)]) (by rw [hml]; rfl) (lenOf own_pd1 rfl) rfl (Nat.le_of_eq rfl) (hb hby own_d20_24) (by decide) (by decide))
  refine own_st (g' := (mkF m 27 #[.val (.ref b), .val (.int (0 : Int32)), .val (.int (Int32.ofNat n)), .val (.int (Int32.ofNat n)), .val (.ref b3)] [(.int (Int32.ofNat (min (cap) (n)))), (.int (0 : Int32)), (.ref b3), (.int (0 : Int32)), (.ref b)])) st5 ?_
  obtain ⟨T6, h6, L6, X6, e6, N6, K6, V6, st6⟩ := own_acN X5 hx hZ hown (hw _ (List.mem_of_getElem? (i := 127) rfl)) (hw _ (List.mem_of_getElem? (i := 103) rfl)) (hw _ (List.mem_of_getElem? (i := 101) rfl)) (hw _ (List.mem_of_getElem? (i := 102) rfl)) e5 (a := b) (b := b3) (n1 := cap) (n2 := n) (sp := 0) (dp := 0) (nn := (min (cap) (n))) (VA.ext E3) V3 la (List.length_replicate) (by omega) (by omega) (by omega) (by omega) N0 (Nat.le_trans Z0 (Nat.le_of_eq g3.symm)) (pc := 27) (Ls := #[.val (.ref b), .val (.int (0 : Int32)), .val (.int (Int32.ofNat n)), .val (.int (Int32.ofNat n)), .val (.ref b3)]) (rest := []) (by rw [hml]; rfl) (hb hby own_d20_27) (by decide) (W := 0) (Nat.le_of_eq rfl) (by decide)
  refine own_st (g' := (mkF m 30 #[.val (.ref b), .val (.int (0 : Int32)), .val (.int (Int32.ofNat n)), .val (.int (Int32.ofNat n)), .val (.ref b3)] [])) st6 ?_
  refine own_st (g' := (mkF m 32 #[.val (.ref b), .val (.int (0 : Int32)), .val (.int (Int32.ofNat n)), .val (.int (Int32.ofNat n)), .val (.ref b3)] [(.ref b3)])) (fun _ q => XS.aload X6.here hx rfl (hb hby own_d20_30) rfl rfl (q)) ?_
  exact own_goR X6 hlk hx (t := (.array .byte)) rfl rfl Bd.returns (hb hby own_d20_32) (by rw [e6]; exact ⟨N6, (((Keep.refl h0 []).ext E3).trans K6 (allS (Or.inr (Nat.le_trans (Nat.le_refl _) (Nat.le_of_eq g3.symm))) all0)), b3, _, rfl, (Nat.le_trans (Nat.le_refl _) (Nat.le_of_eq g3.symm)), (own_cpAll la hn ▸ V6)⟩) (by decide) (by decide)
theorem own_ef11 (m : MethodId) (x0 : Addr) (x1 : Int32) (x2 : Int32) : entryFrame m #[(.ref x0), (.int x1), (.int x2)] 3 = mkF m 0 #[.val (.ref x0), .val (.int x1), .val (.int x2)] [] := by first | (simp [entryFrame, mkF, argsToLocals, Value.category, maxLocals]; done) | rfl
abbrev own_Q_cpR (Z : State) (b : Addr) (kb : ClassId) (n cap n0 : Nat) (vs : List Value) (h0 : Heap) : Option Value → Heap → List Loc → Prop := fun v h L => Fr n0 L ∧ Keep h0 h [] ∧ ∃ b' kb', v = some (.ref b') ∧ h0.size ≤ b' ∧ Arv Z h b' kb' .byte (Int32.ofNat n) (vs.take n) (.int (0 : Int32))
theorem own_d21_0 : decode jdk_65_method_132_code 0 = .ok (.iload_n 1, 1) := by decide +kernel
theorem own_d21_1 : decode jdk_65_method_132_code 1 = .ok (.ifCond .ne 9, 3) := by decide +kernel
theorem own_d21_4 : decode jdk_65_method_132_code 4 = .ok (.iload_n 2, 1) := by decide +kernel
theorem own_d21_5 : decode jdk_65_method_132_code 5 = .ok (.aload_n 0, 1) := by decide +kernel
theorem own_d21_6 : decode jdk_65_method_132_code 6 = .ok (.arraylength, 1) := by decide +kernel
theorem own_d21_7 : decode jdk_65_method_132_code 7 = .ok (.if_icmp .eq 10, 3) := by decide +kernel
theorem own_d21_10 : decode jdk_65_method_132_code 10 = .ok (.aload_n 0, 1) := by decide +kernel
theorem own_d21_11 : decode jdk_65_method_132_code 11 = .ok (.iload_n 1, 1) := by decide +kernel
theorem own_d21_12 : decode jdk_65_method_132_code 12 = .ok (.iload_n 2, 1) := by decide +kernel
theorem own_d21_13 : decode jdk_65_method_132_code 13 = .ok (.invokestatic 339, 3) := by decide +kernel
theorem own_pd12 : parseMethodDescriptor "([BII)[B" = some ⟨[(.array .byte), .int, .int], some (.array .byte)⟩ := by decide +kernel
theorem own_d21_16 : decode jdk_65_method_132_code 16 = .ok (.areturn, 1) := by decide +kernel
set_option maxRecDepth 65536 in
set_option maxHeartbeats 40000000 in
theorem own_rm_cpR (l : Launch) (Z : State) (a0 : Array Value) (hw : ∀ d ∈ tables_1, d.before a0 Z = true) (ws : List Jvm.Cond) (b : Addr) (kb : ClassId) (n cap n0 : Nat) (vs : List Value) (h0 : Heap) (Z0 : n0 ≤ h0.size) (VA : Arv Z h0 b kb .byte (Int32.ofNat cap) vs (.int (0 : Int32))) (la : vs.length = cap) (hn : n ≤ cap) (hK : cap ≤ 100000) (hnK : n ≤ 128) (hne : n ≠ cap) :
    MetFree l (⟨"java/util/Arrays", "copyOfRange", "([BII)[B"⟩ : MethodName) (head1 (Jvm.Cond.code (⟨"java/util/Arrays", "copyOfRange", "([BII)[B"⟩ : MethodName) jdk_65_method_132_code 3 (some (.array .byte)) :: ws) ({ frames := 2, cells := 1, slots := 128, locals := 37 } : Room)) (fun aa U => aa = #[(.ref b), (.int (0 : Int32)), (.int (Int32.ofNat n))] ∧ Z.Warmed39 U.vm ∧ U.heap = h0) (fun _ _ _ _ _ => True) (fun _ U o_ U' => ∃ v L, o_ = .returned v ∧ (own_Q_cpR Z b kb n cap n0 vs h0) v U'.heap L ∧ FrameEnd U o_ U' L ({ frames := 2, cells := 1, slots := 128, locals := 37 } : Room).cells ({ frames := 2, cells := 1, slots := 128, locals := 37 } : Room).slots) := by
  refine MetFree.of_bodySF (plainFor_of_name own_pn3) hisR ?_
  intro p e s m args below meth c s₁ Bd hml0 hP hK
  obtain ⟨rfl, hZ, hh⟩ := hP
  have hx := Bd.exec
  have hby := Bd.bytes
  have hml : c.maxLocals = 3 := hml0
  have hlk : meth.locks = false := BodyLoose.notSynchronized Bd
  have hown : s.vm.findClass "java/util/Arrays" = some m.cls := findClass_of_methodNamed Bd.named
  have hnm := (name_of_methodNamed Bd.named Bd.method).1
  have X0 : Stand p l e ({ frames := 2, cells := 1, slots := 128, locals := 37 } : Room) s m #[(.ref b), (.int (0 : Int32)), (.int (Int32.ofNat n))] below meth c s₁ [] 0 0 := Stand.of_body Bd
  have e0 : s₁.heap = h0 := by rw [← hh, Bd.state]; rfl
  rw [own_ef11 m b (0 : Int32) (Int32.ofNat n)]
  show own_Go p e below s ({ frames := 2, cells := 1, slots := 128, locals := 37 } : Room).cells ({ frames := 2, cells := 1, slots := 128, locals := 37 } : Room).slots (own_Q_cpR Z b kb n cap n0 vs h0) s₁ (mkF m 0 #[.val (.ref b), .val (.int (0 : Int32)), .val (.int (Int32.ofNat n))] [])
  have N0 := Fr.nil n0
  refine own_st (g' := (mkF m 6 #[.val (.ref b), .val (.int (0 : Int32)), .val (.int (Int32.ofNat n))] [(.ref b), (.int (Int32.ofNat n))])) (fun _ q => XS.iloadN X0.here hx rfl (hb hby own_d21_0) rfl (XS.ifNo X0.here hx rfl (hb hby own_d21_1) rfl ((if0 _ _).trans (teq (by decide : (0 : Int32) = (0 : Int32))).2) (XS.iloadN X0.here hx rfl (hb hby own_d21_4) rfl (XS.aloadN X0.here hx rfl (hb hby own_d21_5) rfl rfl (q))))) ?_
  refine own_st (g' := (mkF m 7 #[.val (.ref b), .val (.int (0 : Int32)), .val (.int (Int32.ofNat n))] [(.int (Int32.ofNat cap)), (.int (Int32.ofNat n))])) (own_alen X0 hx hZ e0 VA (hb hby own_d21_6)) ?_
  refine own_st (g' := (mkF m 13 #[.val (.ref b), .val (.int (0 : Int32)), .val (.int (Int32.ofNat n))] [(.int (Int32.ofNat n)), (.int (0 : Int32)), (.ref b)])) (fun _ q => XS.icmpNo X0.here hx rfl (hb hby own_d21_7) rfl (feq (own_neN (i := n) (j := cap) (by omega) (by omega) (by omega) : ¬ (Int32.ofNat n) = (Int32.ofNat cap))).1 (XS.aloadN X0.here hx rfl (hb hby own_d21_10) rfl rfl (XS.iloadN X0.here hx rfl (hb hby own_d21_11) rfl (XS.iloadN X0.here hx rfl (hb hby own_d21_12) rfl (q))))) ?_
  have K1 : own_Bk l ({ frames := 2, cells := 1, slots := 128, locals := 37 } : Room) p e below s #[(.ref b), (.int (0 : Int32)), (.int (Int32.ofNat n))] (⟨"java/util/Arrays", "copyOfRangeByte", "([BII)[B"⟩ : MethodName) 0 h0 #[(.ref b), (.int (0 : Int32)), (.int (Int32.ofNat n))] 1 128 (own_Q_cpRB Z b kb (n) cap n0 vs h0) := backOf (s := s) (R := ({ frames := 2, cells := 1, slots := 128, locals := 37 } : Room)) (W := 0) (Q := (own_Q_cpRB Z b kb (n) cap n0 vs h0)) (rm := ({ frames := 1, cells := 1, slots := 128, locals := 21 } : Room)) (own_rm_cpRB l Z a0 hw [] b kb (n) cap n0 vs h0 Z0 VA la (by omega) (by omega) (by omega)) hZ (hw _ (List.mem_of_getElem? (i := 163) rfl)) (hw _ (List.mem_of_getElem? (i := 122) rfl)) (by decide) (by decide)
  obtain ⟨_, L2, T2, X2, ⟨N2q, K2, b2, kb2, rfl, g2, V2⟩, st2⟩ := own_cS X0 hx hZ hown (hw _ (List.mem_of_getElem? (i := 161) rfl)) (hw _ (List.mem_of_getElem? (i := 162) rfl)) (hw _ (List.mem_of_getElem? (i := 122) rfl)) (hw _ (List.mem_of_getElem? (i := 163) rfl)) (by decide) e0 (h := h0) (argsL := [(.ref b), (.int (0 : Int32)), (.int (Int32.ofNat n))]) (rest := []) K1 (pc := 13) (Ls := #[.val (.ref b), .val (.int (0 : Int32)), .val (.int (Int32.ofNat n))]) (by rw [hml]; rfl) (lenOf own_pd12 rfl) rfl (Nat.le_of_eq rfl) (hb hby own_d21_13) (by decide) (by decide)
  have N2 := Fr.app N0 N2q
  refine own_st (g' := (mkF m 16 #[.val (.ref b), .val (.int (0 : Int32)), .val (.int (Int32.ofNat n))] [(.ref b2)])) st2 ?_
  exact own_goR X2 hlk hx (t := (.array .byte)) rfl rfl Bd.returns (hb hby own_d21_16) ⟨N2, ((Keep.refl h0 []).trans K2 all0), b2, _, rfl, (Nat.le_trans (Nat.le_refl _) g2), V2⟩ (by decide) (by decide)
theorem own_ef12 (m : MethodId) (x0 : Addr) (x1 : Addr) : entryFrame m #[(.ref x0), (.ref x1), .null] 5 = mkF m 0 #[.val (.ref x0), .val (.ref x1), .val .null, .unset, .unset] [] := by first | (simp [entryFrame, mkF, argsToLocals, Value.category, maxLocals]; done) | rfl
abbrev own_Q_xi2 (Z : State) (a b : Addr) (kb : ClassId) (n cap : Nat) (vs : List Value) (x : Addr) (n0 : Nat) (z : Int32) (h0 : Heap) : Option Value → Heap → List Loc → Prop := fun v h L => v = none ∧ Fr n0 L ∧ Keep h0 h [x] ∧ Exa Z h x "java/lang/String" ∧ ∃ t kt, h0.size ≤ t ∧ Fld Z h x "java/lang/String" "value" "[B" (.ref t) ∧ Fld Z h x "java/lang/String" "coder" "B" (.int (0 : Int32)) ∧ Arv Z h t kt .byte (Int32.ofNat n) (vs.take n) (.int (0 : Int32))
theorem own_d22_0 : decode jdk_42_method_150_code 0 = .ok (.aload_n 0, 1) := by decide +kernel
theorem own_d22_1 : decode jdk_42_method_150_code 1 = .ok (.invokespecial 1, 3) := by decide +kernel
theorem own_d22_4 : decode jdk_42_method_150_code 4 = .ok (.aload_n 1, 1) := by decide +kernel
theorem own_d22_5 : decode jdk_42_method_150_code 5 = .ok (.invokevirtual 552, 3) := by decide +kernel
theorem own_pd13 : parseMethodDescriptor "()[B" = some ⟨[], some (.array .byte)⟩ := by decide +kernel
theorem own_d22_8 : decode jdk_42_method_150_code 8 = .ok (.astore_n 3, 1) := by decide +kernel
theorem own_d22_9 : decode jdk_42_method_150_code 9 = .ok (.aload_n 1, 1) := by decide +kernel
theorem own_d22_10 : decode jdk_42_method_150_code 10 = .ok (.invokevirtual 549, 3) := by decide +kernel
theorem own_d22_13 : decode jdk_42_method_150_code 13 = .ok (.istore 4, 2) := by decide +kernel
theorem own_d22_15 : decode jdk_42_method_150_code 15 = .ok (.aload_n 1, 1) := by decide +kernel
theorem own_d22_16 : decode jdk_42_method_150_code 16 = .ok (.invokevirtual 1047, 3) := by decide +kernel
theorem own_pd14 : parseMethodDescriptor "()Z" = some ⟨[], some .boolean⟩ := by decide +kernel
theorem own_d22_19 : decode jdk_42_method_150_code 19 = .ok (.ifCond .eq 22, 3) := by decide +kernel
theorem own_d22_22 : decode jdk_42_method_150_code 22 = .ok (.aload_n 0, 1) := by decide +kernel
theorem own_d22_23 : decode jdk_42_method_150_code 23 = .ok (.iconst 0, 1) := by decide +kernel
theorem own_d22_24 : decode jdk_42_method_150_code 24 = .ok (.putfield 15, 3) := by decide +kernel
theorem own_d22_27 : decode jdk_42_method_150_code 27 = .ok (.aload_n 0, 1) := by decide +kernel
theorem own_d22_28 : decode jdk_42_method_150_code 28 = .ok (.aload_n 3, 1) := by decide +kernel
theorem own_d22_29 : decode jdk_42_method_150_code 29 = .ok (.iconst 0, 1) := by decide +kernel
theorem own_d22_30 : decode jdk_42_method_150_code 30 = .ok (.iload 4, 2) := by decide +kernel
theorem own_d22_32 : decode jdk_42_method_150_code 32 = .ok (.invokestatic 54, 3) := by decide +kernel
theorem own_d22_35 : decode jdk_42_method_150_code 35 = .ok (.putfield 9, 3) := by decide +kernel
theorem own_d22_38 : decode jdk_42_method_150_code 38 = .ok (.goto 59, 3) := by decide +kernel
theorem own_d22_97 : decode jdk_42_method_150_code 97 = .ok (.return_, 1) := by decide +kernel
set_option maxRecDepth 65536 in
set_option maxHeartbeats 40000000 in
theorem own_rm_xi2 (l : Launch) (Z : State) (a0 : Array Value) (hw : ∀ d ∈ tables_1, d.before a0 Z = true) (ws : List Jvm.Cond) (a b : Addr) (kb : ClassId) (n cap : Nat) (vs : List Value) (x : Addr) (n0 : Nat) (z : Int32) (h0 : Heap) (EA : Exa Z h0 a "java/lang/StringBuilder") (FA : Fld Z h0 a "java/lang/AbstractStringBuilder" "value" "[B" (.ref b)) (CA : Fld Z h0 a "java/lang/AbstractStringBuilder" "coder" "B" (.int (0 : Int32))) (NA : Fld Z h0 a "java/lang/AbstractStringBuilder" "count" "I" (.int (Int32.ofNat n))) (VA : Arv Z h0 b kb .byte (Int32.ofNat cap) vs (.int (0 : Int32))) (la : vs.length = cap) (hn : n ≤ cap) (EX : Exa Z h0 x "java/lang/String") (FX : Fld Z h0 x "java/lang/String" "value" "[B" .null) (CX : Fld Z h0 x "java/lang/String" "coder" "B" (.int (0 : Int32))) (gx : n0 ≤ x) (Z0 : n0 ≤ h0.size) (X00 : Old Z n0 h0) (O : Sta Z Z.heap "java/lang/String" "COMPACT_STRINGS" "Z" (.int z)) (hz : ¬ z = (0 : Int32)) (hK : cap ≤ 100000) (hnK : n ≤ 128) (hne : n ≠ cap) :
    MetFree l (⟨"java/lang/String", "<init>", "(Ljava/lang/AbstractStringBuilder;Ljava/lang/Void;)V"⟩ : MethodName) (head1 (Jvm.Cond.code (⟨"java/lang/String", "<init>", "(Ljava/lang/AbstractStringBuilder;Ljava/lang/Void;)V"⟩ : MethodName) jdk_42_method_150_code 5 none :: ws) ({ frames := 3, cells := 1, slots := 128, locals := 52 } : Room)) (fun aa U => aa = #[(.ref x), (.ref a), .null] ∧ Z.Warmed39 U.vm ∧ U.heap = h0) (fun _ _ _ _ _ => True) (fun _ U o_ U' => ∃ v L, o_ = .returned v ∧ (own_Q_xi2 Z a b kb n cap vs x n0 z h0) v U'.heap L ∧ FrameEnd U o_ U' L ({ frames := 3, cells := 1, slots := 128, locals := 52 } : Room).cells ({ frames := 3, cells := 1, slots := 128, locals := 52 } : Room).slots) := by
  refine MetFree.of_bodySF (plainFor_of_name own_pn0) hisR ?_
  intro p e s m args below meth c s₁ Bd hml0 hP hK
  obtain ⟨rfl, hZ, hh⟩ := hP
  have hx := Bd.exec
  have hby := Bd.bytes
  have hml : c.maxLocals = 5 := hml0
  have hlk : meth.locks = false := BodyLoose.notSynchronized Bd
  have hown : s.vm.findClass "java/lang/String" = some m.cls := findClass_of_methodNamed Bd.named
  have hnm := (name_of_methodNamed Bd.named Bd.method).1
  have X0 : Stand p l e ({ frames := 3, cells := 1, slots := 128, locals := 52 } : Room) s m #[(.ref x), (.ref a), .null] below meth c s₁ [] 0 0 := Stand.of_body Bd
  have e0 : s₁.heap = h0 := by rw [← hh, Bd.state]; rfl
  rw [own_ef12 m x a]
  show own_Go p e below s ({ frames := 3, cells := 1, slots := 128, locals := 52 } : Room).cells ({ frames := 3, cells := 1, slots := 128, locals := 52 } : Room).slots (own_Q_xi2 Z a b kb n cap vs x n0 z h0) s₁ (mkF m 0 #[.val (.ref x), .val (.ref a), .val .null, .unset, .unset] [])
  have N0 := Fr.nil n0
  have nxa := ne_exa EX EA (by decide)
  have nxb := Exa.neArv EX VA (hw _ (List.mem_of_getElem? (i := 1) rfl))
  refine own_st (g' := (mkF m 1 #[.val (.ref x), .val (.ref a), .val .null, .unset, .unset] [(.ref x)])) (fun _ q => XS.aloadN X0.here hx rfl (hb hby own_d22_0) rfl rfl (q)) ?_
  obtain ⟨T1, X1, e1, st1⟩ := initO X0 hx hZ hown (hw _ (List.mem_of_getElem? (i := 11) rfl)) (hw _ (List.mem_of_getElem? (i := 12) rfl)) (hw _ (List.mem_of_getElem? (i := 13) rfl)) e0 (g := (mkF m 1 #[.val (.ref x), .val (.ref a), .val .null, .unset, .unset] [(.ref x)])) rfl (by rw [hml]; rfl) rfl (hb hby own_d22_1) (by decide) (W := 0) (by show 2 * 0 + _ ≤ _; exact Nat.le_of_eq rfl) (by decide)
  refine own_st (g' := (mkF m 4 #[.val (.ref x), .val (.ref a), .val .null, .unset, .unset] [])) st1 ?_
  refine own_st (g' := (mkF m 5 #[.val (.ref x), .val (.ref a), .val .null, .unset, .unset] [(.ref a)])) (fun _ q => XS.aloadN X1.here hx rfl (hb hby own_d22_4) rfl rfl (q)) ?_
  have K2 : own_Bk l ({ frames := 3, cells := 1, slots := 128, locals := 52 } : Room) p e below s #[(.ref x), (.ref a), .null] (⟨"java/lang/AbstractStringBuilder", "getValue", "()[B"⟩ : MethodName) 0 h0 #[(.ref a)] 0 0 (fun v h L => v = some (.ref b) ∧ L = [] ∧ h = h0) := backOf (s := s) (R := ({ frames := 3, cells := 1, slots := 128, locals := 52 } : Room)) (W := 0) (Q := (fun v h L => v = some (.ref b) ∧ L = [] ∧ h = h0)) (rm := ({ frames := 0, cells := 0, slots := 0, locals := 0 } : Room)) (own_rm_getV l Z a0 hw [] a b kb n cap vs  h0 EA FA CA NA VA la (by omega) ) hZ (hw _ (List.mem_of_getElem? (i := 144) rfl)) (hw _ (List.mem_of_getElem? (i := 46) rfl)) (by decide) (by decide)
  obtain ⟨T3, X3, e3, st3⟩ := own_pure (own_cV X1 hx hZ hown (hw _ (List.mem_of_getElem? (i := 140) rfl)) (hw _ (List.mem_of_getElem? (i := 141) rfl)) (notFace_of_selects (args := #[]) (mvT hZ (hw _ (List.mem_of_getElem? (i := 143) rfl)))) (hw _ (List.mem_of_getElem? (i := 143) rfl)) (hw _ (List.mem_of_getElem? (i := 142) rfl)) (by decide) e1 (h := h0) (b := a) EA (argsL := []) (rest := []) K2 (pc := 5) (Ls := #[.val (.ref x), .val (.ref a), .val .null, .unset, .unset]) (by rw [hml]; rfl) (lenOf own_pd13 rfl) rfl (Nat.le_of_eq rfl) (hb hby own_d22_5) (by decide) (by decide))
  refine own_st (g' := (mkF m 8 #[.val (.ref x), .val (.ref a), .val .null, .unset, .unset] [(.ref b)])) st3 ?_
  refine own_st (g' := (mkF m 10 #[.val (.ref x), .val (.ref a), .val .null, .val (.ref b), .unset] [(.ref a)])) (fun _ q => XS.astoreN X3.here hx rfl (hb hby own_d22_8) rfl rfl (l' := #[.val (.ref x), .val (.ref a), .val .null, .val (.ref b), .unset]) rfl (XS.aloadN X3.here hx rfl (hb hby own_d22_9) rfl rfl (q))) ?_
  have K4 : own_Bk l ({ frames := 3, cells := 1, slots := 128, locals := 52 } : Room) p e below s #[(.ref x), (.ref a), .null] (⟨"java/lang/StringBuilder", "length", "()I"⟩ : MethodName) 0 h0 #[(.ref a)] 0 0 (fun v h L => v = some (.int (Int32.ofNat n)) ∧ L = [] ∧ h = h0) := backOf (s := s) (R := ({ frames := 3, cells := 1, slots := 128, locals := 52 } : Room)) (W := 0) (Q := (fun v h L => v = some (.int (Int32.ofNat n)) ∧ L = [] ∧ h = h0)) (rm := ({ frames := 1, cells := 0, slots := 0, locals := 12 } : Room)) (own_rm_blen l Z a0 hw [] a b kb n cap vs  h0 EA FA CA NA VA la (by omega) ) hZ (hw _ (List.mem_of_getElem? (i := 150) rfl)) (hw _ (List.mem_of_getElem? (i := 38) rfl)) (by decide) (by decide)
  obtain ⟨T5, X5, e5, st5⟩ := own_pure (own_cV X3 hx hZ hown (hw _ (List.mem_of_getElem? (i := 145) rfl)) (hw _ (List.mem_of_getElem? (i := 146) rfl)) (own_nfmv hZ (hw _ (List.mem_of_getElem? (i := 82) rfl)) rfl) (hw _ (List.mem_of_getElem? (i := 148) rfl)) (hw _ (List.mem_of_getElem? (i := 149) rfl)) (by decide) e3 (h := h0) (b := a) EA (argsL := []) (rest := []) K4 (pc := 10) (Ls := #[.val (.ref x), .val (.ref a), .val .null, .val (.ref b), .unset]) (by rw [hml]; rfl) (lenOf own_pd7 rfl) rfl (Nat.le_of_eq rfl) (hb hby own_d22_10) (by decide) (by decide))
  refine own_st (g' := (mkF m 13 #[.val (.ref x), .val (.ref a), .val .null, .val (.ref b), .unset] [(.int (Int32.ofNat n))])) st5 ?_
  refine own_st (g' := (mkF m 16 #[.val (.ref x), .val (.ref a), .val .null, .val (.ref b), .val (.int (Int32.ofNat n))] [(.ref a)])) (fun _ q => XS.istore X5.here hx rfl (hb hby own_d22_13) rfl (l' := #[.val (.ref x), .val (.ref a), .val .null, .val (.ref b), .val (.int (Int32.ofNat n))]) rfl (XS.aloadN X5.here hx rfl (hb hby own_d22_15) rfl rfl (q))) ?_
  have K6 : own_Bk l ({ frames := 3, cells := 1, slots := 128, locals := 52 } : Room) p e below s #[(.ref x), (.ref a), .null] (⟨"java/lang/AbstractStringBuilder", "isLatin1", "()Z"⟩ : MethodName) 0 h0 #[(.ref a)] 0 0 (fun v h L => v = some (.int (1 : Int32)) ∧ L = [] ∧ h = h0) := backOf (s := s) (R := ({ frames := 3, cells := 1, slots := 128, locals := 52 } : Room)) (W := 0) (Q := (fun v h L => v = some (.int (1 : Int32)) ∧ L = [] ∧ h = h0)) (rm := ({ frames := 0, cells := 0, slots := 0, locals := 0 } : Room)) (own_rm_isL1 l Z a0 hw [] a b kb n cap vs z n0  h0 EA FA CA NA VA la (by omega) O hz X00 ) hZ (hw _ (List.mem_of_getElem? (i := 157) rfl)) (hw _ (List.mem_of_getElem? (i := 46) rfl)) (by decide) (by decide)
  obtain ⟨T7, X7, e7, st7⟩ := own_pure (own_cV X5 hx hZ hown (hw _ (List.mem_of_getElem? (i := 153) rfl)) (hw _ (List.mem_of_getElem? (i := 154) rfl)) (notFace_of_selects (args := #[]) (mvT hZ (hw _ (List.mem_of_getElem? (i := 156) rfl)))) (hw _ (List.mem_of_getElem? (i := 156) rfl)) (hw _ (List.mem_of_getElem? (i := 155) rfl)) (by decide) e5 (h := h0) (b := a) EA (argsL := []) (rest := []) K6 (pc := 16) (Ls := #[.val (.ref x), .val (.ref a), .val .null, .val (.ref b), .val (.int (Int32.ofNat n))]) (by rw [hml]; rfl) (lenOf own_pd14 rfl) rfl (Nat.le_of_eq rfl) (hb hby own_d22_16) (by decide) (by decide))
  refine own_st (g' := (mkF m 19 #[.val (.ref x), .val (.ref a), .val .null, .val (.ref b), .val (.int (Int32.ofNat n))] [(.int (1 : Int32))])) st7 ?_
  refine own_st (g' := (mkF m 24 #[.val (.ref x), .val (.ref a), .val .null, .val (.ref b), .val (.int (Int32.ofNat n))] [(.int (0 : Int32)), (.ref x)])) (fun _ q => XS.ifNo X7.here hx rfl (hb hby own_d22_19) rfl ((if0 _ _).trans (feq (by decide : ¬ ((1 : Int32) = (0 : Int32)))).1) (XS.aloadN X7.here hx rfl (hb hby own_d22_22) rfl rfl (XS.iconst X7.here hx rfl (hb hby own_d22_23) (q)))) ?_
  obtain ⟨T8, h8, X8, e8, W8, st8⟩ := putFN X7 hx hZ hown (hw _ (List.mem_of_getElem? (i := 26) rfl)) Via.refl e7 CX EX (Or.inr ⟨(hw _ (List.mem_of_getElem? (i := 27) rfl)), rfl, hnm⟩) (hw _ (List.mem_of_getElem? (i := 1) rfl)) (ty := .byte) (v' := .int (0 : Int32)) (by decide) rfl rfl (g := (mkF m 24 #[.val (.ref x), .val (.ref a), .val .null, .val (.ref b), .val (.int (Int32.ofNat n))] [(.int (0 : Int32)), (.ref x)])) rfl rfl (hb hby own_d22_24)
  have F8 : Fld Z h8 x "java/lang/String" "coder" "B" (.int (0 : Int32)) := CX.same W8
  have N8 := Fr.snoc X8 N0 gx
  refine own_st (g' := (mkF m 27 #[.val (.ref x), .val (.ref a), .val .null, .val (.ref b), .val (.int (Int32.ofNat n))] [])) st8 ?_
  refine own_st (g' := (mkF m 32 #[.val (.ref x), .val (.ref a), .val .null, .val (.ref b), .val (.int (Int32.ofNat n))] [(.int (Int32.ofNat n)), (.int (0 : Int32)), (.ref b), (.ref x)])) (fun _ q => XS.aloadN X8.here hx rfl (hb hby own_d22_27) rfl rfl (XS.aloadN X8.here hx rfl (hb hby own_d22_28) rfl rfl (XS.iconst X8.here hx rfl (hb hby own_d22_29) (XS.iload X8.here hx rfl (hb hby own_d22_30) rfl (q))))) ?_
  have K9 : own_Bk l ({ frames := 3, cells := 1, slots := 128, locals := 52 } : Room) p e below s #[(.ref x), (.ref a), .null] (⟨"java/util/Arrays", "copyOfRange", "([BII)[B"⟩ : MethodName) 1 h8 #[(.ref b), (.int (0 : Int32)), (.int (Int32.ofNat n))] 1 128 (own_Q_cpR Z b kb (n) cap n0 vs h8) := backOf (s := s) (R := ({ frames := 3, cells := 1, slots := 128, locals := 52 } : Room)) (W := 1) (Q := (own_Q_cpR Z b kb (n) cap n0 vs h8)) (rm := ({ frames := 2, cells := 1, slots := 128, locals := 37 } : Room)) (own_rm_cpR l Z a0 hw [] b kb (n) cap n0 vs h8 (Nat.le_trans Z0 (Keep.of_wr W8).1) (VA.other W8 (Ne.symm nxb)) la (by omega) (by omega) (by omega) (by omega)) hZ (hw _ (List.mem_of_getElem? (i := 160) rfl)) (hw _ (List.mem_of_getElem? (i := 122) rfl)) (by decide) (by decide)
  obtain ⟨_, L10, T10, X10, ⟨N10q, K10, b10, kb10, rfl, g10, V10⟩, st10⟩ := own_cS X8 hx hZ hown (hw _ (List.mem_of_getElem? (i := 158) rfl)) (hw _ (List.mem_of_getElem? (i := 159) rfl)) (hw _ (List.mem_of_getElem? (i := 122) rfl)) (hw _ (List.mem_of_getElem? (i := 160) rfl)) (by decide) e8 (h := h8) (argsL := [(.ref b), (.int (0 : Int32)), (.int (Int32.ofNat n))]) (rest := [(.ref x)]) K9 (pc := 32) (Ls := #[.val (.ref x), .val (.ref a), .val .null, .val (.ref b), .val (.int (Int32.ofNat n))]) (by rw [hml]; rfl) (lenOf own_pd12 rfl) rfl (Nat.le_of_eq rfl) (hb hby own_d22_32) (by decide) (by decide)
  have N10 := Fr.app N8 N10q
  refine own_st (g' := (mkF m 35 #[.val (.ref x), .val (.ref a), .val .null, .val (.ref b), .val (.int (Int32.ofNat n))] [(.ref b10), (.ref x)])) st10 ?_
  obtain ⟨T11, h11, X11, e11, W11, st11⟩ := putF X10 hx hZ hown (host := "") (Or.inl (hw _ (List.mem_of_getElem? (i := 28) rfl))) Via.refl rfl ((FX.other W8 (Or.inr (slot_ne (Or.inr (hw _ (List.mem_of_getElem? (i := 29) rfl))) (Or.inr (hw _ (List.mem_of_getElem? (i := 27) rfl))) (by decide) (t := (.array .byte)) (by decide) (t' := .byte) (by decide)))).keep K10 nin0) ((EX.wr W8).keep K10) (Or.inr ⟨(hw _ (List.mem_of_getElem? (i := 29) rfl)), rfl, hnm⟩) (hw _ (List.mem_of_getElem? (i := 1) rfl)) (ty := (.array .byte)) (by decide) rfl rfl (g := (mkF m 35 #[.val (.ref x), .val (.ref a), .val .null, .val (.ref b), .val (.int (Int32.ofNat n))] [(.ref b10), (.ref x)])) rfl rfl (hb hby own_d22_35)
  have F11 : Fld Z h11 x "java/lang/String" "value" "[B" (.ref b10) := ((FX.other W8 (Or.inr (slot_ne (Or.inr (hw _ (List.mem_of_getElem? (i := 29) rfl))) (Or.inr (hw _ (List.mem_of_getElem? (i := 27) rfl))) (by decide) (t := (.array .byte)) (by decide) (t' := .byte) (by decide)))).keep K10 nin0).same W11
  have N11 := Fr.snoc X11 N10 gx
  refine own_st (g' := (mkF m 38 #[.val (.ref x), .val (.ref a), .val .null, .val (.ref b), .val (.int (Int32.ofNat n))] [])) st11 ?_
  refine own_st (g' := (mkF m 97 #[.val (.ref x), .val (.ref a), .val .null, .val (.ref b), .val (.int (Int32.ofNat n))] [])) (fun _ q => XS.goto X11.here hx rfl (pc0 := 38) (pc' := 97) rfl (hb hby own_d22_38) (by decide) (by decide) (q)) ?_
  exact own_goV X11 hlk hx Bd.returns (hb hby own_d22_97) (by rw [e11]; exact ⟨rfl, N11, ((((Keep.refl h0 [x]).wr W8 (Or.inl (List.mem_of_getElem? (i := 0) rfl))).trans K10 all0).wr W11 (Or.inl (List.mem_of_getElem? (i := 0) rfl))), (((EX.wr W8).keep K10).wr W11), b10, _, (Nat.le_trans (Keep.of_wr W8).1 g10), F11, ((F8.keep K10 nin0).other W11 (Or.inr (slot_ne (Or.inr (hw _ (List.mem_of_getElem? (i := 27) rfl))) (Or.inr (hw _ (List.mem_of_getElem? (i := 29) rfl))) (by decide) (t := .byte) (by decide) (t' := (.array .byte)) (by decide)))), (V10.other W11 (Ne.symm (Nat.ne_of_lt (Nat.lt_of_lt_of_le (Nat.lt_of_lt_of_le EX.lt (Keep.of_wr W8).1) g10))))⟩) (by decide) (by decide)
abbrev own_Q_xi1 (Z : State) (a b : Addr) (kb : ClassId) (n cap : Nat) (vs : List Value) (x : Addr) (n0 : Nat) (z : Int32) (h0 : Heap) : Option Value → Heap → List Loc → Prop := fun v h L => v = none ∧ Fr n0 L ∧ Keep h0 h [x] ∧ Exa Z h x "java/lang/String" ∧ ∃ t kt, h0.size ≤ t ∧ Fld Z h x "java/lang/String" "value" "[B" (.ref t) ∧ Fld Z h x "java/lang/String" "coder" "B" (.int (0 : Int32)) ∧ Arv Z h t kt .byte (Int32.ofNat n) (vs.take n) (.int (0 : Int32))
theorem own_d23_0 : decode jdk_42_method_53_code 0 = .ok (.aload_n 0, 1) := by decide +kernel
theorem own_d23_1 : decode jdk_42_method_53_code 1 = .ok (.aload_n 1, 1) := by decide +kernel
theorem own_d23_2 : decode jdk_42_method_53_code 2 = .ok (.aconst_null, 1) := by decide +kernel
theorem own_d23_3 : decode jdk_42_method_53_code 3 = .ok (.invokespecial 489, 3) := by decide +kernel
theorem own_pd15 : parseMethodDescriptor "(Ljava/lang/AbstractStringBuilder;Ljava/lang/Void;)V" = some ⟨[(.object "java/lang/AbstractStringBuilder"), (.object "java/lang/Void")], none⟩ := by decide +kernel
theorem own_d23_6 : decode jdk_42_method_53_code 6 = .ok (.return_, 1) := by decide +kernel
set_option maxRecDepth 65536 in
set_option maxHeartbeats 40000000 in
theorem own_rm_xi1 (l : Launch) (Z : State) (a0 : Array Value) (hw : ∀ d ∈ tables_1, d.before a0 Z = true) (ws : List Jvm.Cond) (a b : Addr) (kb : ClassId) (n cap : Nat) (vs : List Value) (x : Addr) (n0 : Nat) (z : Int32) (h0 : Heap) (EA : Exa Z h0 a "java/lang/StringBuilder") (FA : Fld Z h0 a "java/lang/AbstractStringBuilder" "value" "[B" (.ref b)) (CA : Fld Z h0 a "java/lang/AbstractStringBuilder" "coder" "B" (.int (0 : Int32))) (NA : Fld Z h0 a "java/lang/AbstractStringBuilder" "count" "I" (.int (Int32.ofNat n))) (VA : Arv Z h0 b kb .byte (Int32.ofNat cap) vs (.int (0 : Int32))) (la : vs.length = cap) (hn : n ≤ cap) (EX : Exa Z h0 x "java/lang/String") (FX : Fld Z h0 x "java/lang/String" "value" "[B" .null) (CX : Fld Z h0 x "java/lang/String" "coder" "B" (.int (0 : Int32))) (gx : n0 ≤ x) (Z0 : n0 ≤ h0.size) (X00 : Old Z n0 h0) (O : Sta Z Z.heap "java/lang/String" "COMPACT_STRINGS" "Z" (.int z)) (hz : ¬ z = (0 : Int32)) (hK : cap ≤ 100000) (hnK : n ≤ 128) (hne : n ≠ cap) :
    MetFree l (⟨"java/lang/String", "<init>", "(Ljava/lang/StringBuilder;)V"⟩ : MethodName) (head1 (Jvm.Cond.code (⟨"java/lang/String", "<init>", "(Ljava/lang/StringBuilder;)V"⟩ : MethodName) jdk_42_method_53_code 2 none :: ws) ({ frames := 4, cells := 1, slots := 128, locals := 68 } : Room)) (fun aa U => aa = #[(.ref x), (.ref a)] ∧ Z.Warmed39 U.vm ∧ U.heap = h0) (fun _ _ _ _ _ => True) (fun _ U o_ U' => ∃ v L, o_ = .returned v ∧ (own_Q_xi1 Z a b kb n cap vs x n0 z h0) v U'.heap L ∧ FrameEnd U o_ U' L ({ frames := 4, cells := 1, slots := 128, locals := 68 } : Room).cells ({ frames := 4, cells := 1, slots := 128, locals := 68 } : Room).slots) := by
  refine MetFree.of_bodySF (plainFor_of_name own_pn0) hisR ?_
  intro p e s m args below meth c s₁ Bd hml0 hP hK
  obtain ⟨rfl, hZ, hh⟩ := hP
  have hx := Bd.exec
  have hby := Bd.bytes
  have hml : c.maxLocals = 2 := hml0
  have hlk : meth.locks = false := BodyLoose.notSynchronized Bd
  have hown : s.vm.findClass "java/lang/String" = some m.cls := findClass_of_methodNamed Bd.named
  have hnm := (name_of_methodNamed Bd.named Bd.method).1
  have X0 : Stand p l e ({ frames := 4, cells := 1, slots := 128, locals := 68 } : Room) s m #[(.ref x), (.ref a)] below meth c s₁ [] 0 0 := Stand.of_body Bd
  have e0 : s₁.heap = h0 := by rw [← hh, Bd.state]; rfl
  rw [own_ef5 m x a]
  show own_Go p e below s ({ frames := 4, cells := 1, slots := 128, locals := 68 } : Room).cells ({ frames := 4, cells := 1, slots := 128, locals := 68 } : Room).slots (own_Q_xi1 Z a b kb n cap vs x n0 z h0) s₁ (mkF m 0 #[.val (.ref x), .val (.ref a)] [])
  have N0 := Fr.nil n0
  have nxa := ne_exa EX EA (by decide)
  have nxb := Exa.neArv EX VA (hw _ (List.mem_of_getElem? (i := 1) rfl))
  refine own_st (g' := (mkF m 3 #[.val (.ref x), .val (.ref a)] [.null, (.ref a), (.ref x)])) (fun _ q => XS.aloadN X0.here hx rfl (hb hby own_d23_0) rfl rfl (XS.aloadN X0.here hx rfl (hb hby own_d23_1) rfl rfl (XS.aconstNull X0.here hx rfl (hb hby own_d23_2) (q)))) ?_
  have K1 : own_Bk l ({ frames := 4, cells := 1, slots := 128, locals := 68 } : Room) p e below s #[(.ref x), (.ref a)] (⟨"java/lang/String", "<init>", "(Ljava/lang/AbstractStringBuilder;Ljava/lang/Void;)V"⟩ : MethodName) 0 h0 #[(.ref x), (.ref a), .null] 1 128 (own_Q_xi2 Z a b kb n cap vs x n0 z h0) := backOf (s := s) (R := ({ frames := 4, cells := 1, slots := 128, locals := 68 } : Room)) (W := 0) (Q := (own_Q_xi2 Z a b kb n cap vs x n0 z h0)) (rm := ({ frames := 3, cells := 1, slots := 128, locals := 52 } : Room)) (own_rm_xi2 l Z a0 hw [] a b kb n cap vs x n0 z h0 EA FA CA NA VA la (by omega) EX FX CX gx Z0 X00 O hz (by omega) (by omega) (by omega)) hZ (hw _ (List.mem_of_getElem? (i := 139) rfl)) (hw _ (List.mem_of_getElem? (i := 2) rfl)) (by decide) (by decide)
  obtain ⟨_, L2, T2, X2, ⟨rfl, N2q, K2, E2, t2, kt2, g2, F2, Cd2, V2⟩, st2⟩ := own_cI X0 hx hZ rfl hown (hw _ (List.mem_of_getElem? (i := 137) rfl)) (hw _ (List.mem_of_getElem? (i := 138) rfl)) (hw _ (List.mem_of_getElem? (i := 139) rfl)) (by decide) e0 (h := h0) (b := x) (argsL := [(.ref a), .null]) (rest := []) K1 (pc := 3) (Ls := #[.val (.ref x), .val (.ref a)]) (by rw [hml]; rfl) (lenOf own_pd15 rfl) rfl (Nat.le_of_eq rfl) (hb hby own_d23_3) (by decide) (by decide)
  have N2 := Fr.app N0 N2q
  refine own_st (g' := (mkF m 6 #[.val (.ref x), .val (.ref a)] [])) st2 ?_
  exact own_goV X2 hlk hx Bd.returns (hb hby own_d23_6) ⟨rfl, N2, ((Keep.refl h0 [x]).trans K2 (allS (Or.inl (List.mem_of_getElem? (i := 0) rfl)) all0)), E2, t2, _, (Nat.le_trans (Nat.le_refl _) g2), F2, Cd2, V2⟩ (by decide) (by decide)
abbrev own_Q_tostr (Z : State) (a b : Addr) (kb : ClassId) (n cap : Nat) (vs : List Value) (n0 : Nat) (z : Int32) (h0 : Heap) : Option Value → Heap → List Loc → Prop := fun v h L => Fr n0 L ∧ Keep h0 h [] ∧ ∃ x t kt, v = some (.ref x) ∧ h0.size ≤ x ∧ h0.size ≤ t ∧ Exa Z h x "java/lang/String" ∧ Fld Z h x "java/lang/String" "value" "[B" (.ref t) ∧ Fld Z h x "java/lang/String" "coder" "B" (.int (0 : Int32)) ∧ Arv Z h t kt .byte (Int32.ofNat n) (vs.take n) (.int (0 : Int32))
theorem own_d24_0 : decode jdk_67_method_42_code 0 = .ok (.new 18, 3) := by decide +kernel
theorem own_d24_3 : decode jdk_67_method_42_code 3 = .ok (.dup, 1) := by decide +kernel
theorem own_d24_4 : decode jdk_67_method_42_code 4 = .ok (.aload_n 0, 1) := by decide +kernel
theorem own_d24_5 : decode jdk_67_method_42_code 5 = .ok (.invokespecial 137, 3) := by decide +kernel
theorem own_pd16 : parseMethodDescriptor "(Ljava/lang/StringBuilder;)V" = some ⟨[(.object "java/lang/StringBuilder")], none⟩ := by decide +kernel
theorem own_d24_8 : decode jdk_67_method_42_code 8 = .ok (.areturn, 1) := by decide +kernel
set_option maxRecDepth 65536 in
set_option maxHeartbeats 40000000 in
theorem own_rm_tostr (l : Launch) (Z : State) (a0 : Array Value) (hw : ∀ d ∈ tables_1, d.before a0 Z = true) (ws : List Jvm.Cond) (a b : Addr) (kb : ClassId) (n cap : Nat) (vs : List Value) (n0 : Nat) (z : Int32) (h0 : Heap) (EA : Exa Z h0 a "java/lang/StringBuilder") (FA : Fld Z h0 a "java/lang/AbstractStringBuilder" "value" "[B" (.ref b)) (CA : Fld Z h0 a "java/lang/AbstractStringBuilder" "coder" "B" (.int (0 : Int32))) (NA : Fld Z h0 a "java/lang/AbstractStringBuilder" "count" "I" (.int (Int32.ofNat n))) (VA : Arv Z h0 b kb .byte (Int32.ofNat cap) vs (.int (0 : Int32))) (la : vs.length = cap) (hn : n ≤ cap) (Z0 : n0 ≤ h0.size) (X00 : Old Z n0 h0) (O : Sta Z Z.heap "java/lang/String" "COMPACT_STRINGS" "Z" (.int z)) (hz : ¬ z = (0 : Int32)) (hK : cap ≤ 100000) (hnK : n ≤ 128) (hne : n ≠ cap) :
    MetFree l (⟨"java/lang/StringBuilder", "toString", "()Ljava/lang/String;"⟩ : MethodName) (head1 (Jvm.Cond.code (⟨"java/lang/StringBuilder", "toString", "()Ljava/lang/String;"⟩ : MethodName) jdk_67_method_42_code 1 (some (.object "java/lang/String")) :: ws) ({ frames := 5, cells := 2, slots := 132, locals := 82 } : Room)) (fun aa U => aa = #[(.ref a)] ∧ Z.Warmed39 U.vm ∧ U.heap = h0) (fun _ _ _ _ _ => True) (fun _ U o_ U' => ∃ v L, o_ = .returned v ∧ (own_Q_tostr Z a b kb n cap vs n0 z h0) v U'.heap L ∧ FrameEnd U o_ U' L ({ frames := 5, cells := 2, slots := 132, locals := 82 } : Room).cells ({ frames := 5, cells := 2, slots := 132, locals := 82 } : Room).slots) := by
  refine MetFree.of_bodySF (plainFor_of_name own_pn4) hisR ?_
  intro p e s m args below meth c s₁ Bd hml0 hP hK
  obtain ⟨rfl, hZ, hh⟩ := hP
  have hx := Bd.exec
  have hby := Bd.bytes
  have hml : c.maxLocals = 1 := hml0
  have hlk : meth.locks = false := BodyLoose.notSynchronized Bd
  have hown : s.vm.findClass "java/lang/StringBuilder" = some m.cls := findClass_of_methodNamed Bd.named
  have hnm := (name_of_methodNamed Bd.named Bd.method).1
  have X0 : Stand p l e ({ frames := 5, cells := 2, slots := 132, locals := 82 } : Room) s m #[(.ref a)] below meth c s₁ [] 0 0 := Stand.of_body Bd
  have e0 : s₁.heap = h0 := by rw [← hh, Bd.state]; rfl
  rw [own_ef0 m a]
  show own_Go p e below s ({ frames := 5, cells := 2, slots := 132, locals := 82 } : Room).cells ({ frames := 5, cells := 2, slots := 132, locals := 82 } : Room).slots (own_Q_tostr Z a b kb n cap vs n0 z h0) s₁ (mkF m 0 #[.val (.ref a)] [])
  have N0 := Fr.nil n0
  obtain ⟨T1, h1, X1, e1, E1, A1, D1, U1, st1⟩ := newO X0 hx hZ hown (hw _ (List.mem_of_getElem? (i := 133) rfl)) (hw _ (List.mem_of_getElem? (i := 1) rfl)) (hw _ (List.mem_of_getElem? (i := 2) rfl)) e0 (g := (mkF m 0 #[.val (.ref a)] [])) rfl (hb hby own_d24_0) (by decide) (by decide)
  obtain ⟨b1, g1⟩ : ∃ z, z = h0.size := ⟨_, rfl⟩
  rw [← g1] at A1 D1 U1 st1
  have F1_coder : Fld Z h1 b1 "java/lang/String" "coder" "B" (.int (0 : Int32)) := D1 (Or.inr (hw _ (List.mem_of_getElem? (i := 27) rfl))) (ty := .byte) (by decide)
  have F1_value : Fld Z h1 b1 "java/lang/String" "value" "[B" .null := D1 (Or.inr (hw _ (List.mem_of_getElem? (i := 29) rfl))) (ty := (.array .byte)) (by decide)
  refine own_st (g' := (mkF m 3 #[.val (.ref a)] [(.ref b1)])) st1 ?_
  refine own_st (g' := (mkF m 5 #[.val (.ref a)] [(.ref a), (.ref b1), (.ref b1)])) (fun _ q => XS.dup X1.here hx rfl (hb hby own_d24_3) rfl rfl (XS.aloadN X1.here hx rfl (hb hby own_d24_4) rfl rfl (q))) ?_
  have K2 : own_Bk l ({ frames := 5, cells := 2, slots := 132, locals := 82 } : Room) p e below s #[(.ref a)] (⟨"java/lang/String", "<init>", "(Ljava/lang/StringBuilder;)V"⟩ : MethodName) 1 h1 #[(.ref b1), (.ref a)] 1 128 (own_Q_xi1 Z a b kb n cap vs b1 n0 z h1) := backOf (s := s) (R := ({ frames := 5, cells := 2, slots := 132, locals := 82 } : Room)) (W := 1) (Q := (own_Q_xi1 Z a b kb n cap vs b1 n0 z h1)) (rm := ({ frames := 4, cells := 1, slots := 128, locals := 68 } : Room)) (own_rm_xi1 l Z a0 hw [] a b kb n cap vs b1 n0 z h1 (EA.ext E1) (FA.ext E1) (CA.ext E1) (NA.ext E1) (VA.ext E1) la (by omega) A1 F1_value F1_coder (Nat.le_trans Z0 (Nat.le_of_eq g1.symm)) (Nat.le_trans Z0 E1.1) (X00.ext E1) O hz (by omega) (by omega) (by omega)) hZ (hw _ (List.mem_of_getElem? (i := 136) rfl)) (hw _ (List.mem_of_getElem? (i := 2) rfl)) (by decide) (by decide)
  obtain ⟨_, L3, T3, X3, ⟨rfl, N3q, K3, E3, t3, kt3, g3, F3, Cd3, V3⟩, st3⟩ := own_cI X1 hx hZ rfl hown (hw _ (List.mem_of_getElem? (i := 134) rfl)) (hw _ (List.mem_of_getElem? (i := 135) rfl)) (hw _ (List.mem_of_getElem? (i := 136) rfl)) (by decide) e1 (h := h1) (b := b1) (argsL := [(.ref a)]) (rest := [(.ref b1)]) K2 (pc := 5) (Ls := #[.val (.ref a)]) (by rw [hml]; rfl) (lenOf own_pd16 rfl) rfl (Nat.le_of_eq rfl) (hb hby own_d24_5) (by decide) (by decide)
  have N3 := Fr.app N0 N3q
  refine own_st (g' := (mkF m 8 #[.val (.ref a)] [(.ref b1)])) st3 ?_
  exact own_goR X3 hlk hx (t := (.object "java/lang/String")) rfl rfl Bd.returns (hb hby own_d24_8) ⟨N3, (((Keep.refl h0 []).ext E1).trans K3 (allS (Or.inr (Nat.le_trans (Nat.le_refl _) (Nat.le_of_eq g1.symm))) all0)), b1, t3, _, rfl, (Nat.le_trans (Nat.le_refl _) (Nat.le_of_eq g1.symm)), (Nat.le_trans E1.1 g3), E3, F3, Cd3, V3⟩ (by decide) (by decide)
theorem own_excT : ∀ d ∈ Jvm.Free.Exc.excAtoms "com/example/titelfeld/titelfeld/command/CommandFailure", d ≠ own_bad → d ∈ tables_1 := by decide +kernel
theorem own_excW {Z : State} {a0 : Array Value} (hw : ∀ d ∈ tables_1, d.before a0 Z = true) : ∀ d ∈ Jvm.Free.Exc.excAtoms "com/example/titelfeld/titelfeld/command/CommandFailure", d ≠ own_bad → d.before a0 Z = true := fun d hd hne => hw d (own_excT d hd hne)
theorem own_pn5 : plainName "java/lang/Throwable" = true := by first | (simp [plainName, overriddenIn]; done) | decide +kernel
abbrev own_Q_thi (Z : State) (f x : Addr) (n0 : Nat) (h0 : Heap) : Option Value → Heap → List Loc → Prop := fun v h L => v = none ∧ Fr n0 L ∧ Keep h0 h [f] ∧ Exa Z h f "com/example/titelfeld/titelfeld/command/CommandFailure" ∧ Fld Z h f "java/lang/Throwable" "detailMessage" "Ljava/lang/String;" (.ref x) ∧ Fld Z h f "com/example/titelfeld/titelfeld/command/CommandFailure" "reported" "Z" (.int (0 : Int32))
theorem own_d25_0 : decode jdk_78_method_2_code 0 = .ok (.aload_n 0, 1) := by decide +kernel
theorem own_d25_1 : decode jdk_78_method_2_code 1 = .ok (.invokespecial 1, 3) := by decide +kernel
theorem own_d25_4 : decode jdk_78_method_2_code 4 = .ok (.aload_n 0, 1) := by decide +kernel
theorem own_d25_5 : decode jdk_78_method_2_code 5 = .ok (.aload_n 0, 1) := by decide +kernel
theorem own_d25_6 : decode jdk_78_method_2_code 6 = .ok (.putfield 7, 3) := by decide +kernel
theorem own_d25_9 : decode jdk_78_method_2_code 9 = .ok (.aload_n 0, 1) := by decide +kernel
theorem own_d25_10 : decode jdk_78_method_2_code 10 = .ok (.getstatic 13, 3) := by decide +kernel
theorem own_d25_13 : decode jdk_78_method_2_code 13 = .ok (.putfield 17, 3) := by decide +kernel
theorem own_d25_16 : decode jdk_78_method_2_code 16 = .ok (.aload_n 0, 1) := by decide +kernel
theorem own_d25_17 : decode jdk_78_method_2_code 17 = .ok (.getstatic 20, 3) := by decide +kernel
theorem own_d25_20 : decode jdk_78_method_2_code 20 = .ok (.putfield 24, 3) := by decide +kernel
theorem own_d25_23 : decode jdk_78_method_2_code 23 = .ok (.aload_n 0, 1) := by decide +kernel
theorem own_d25_24 : decode jdk_78_method_2_code 24 = .ok (.invokevirtual 27, 3) := by decide +kernel
theorem own_d25_27 : decode jdk_78_method_2_code 27 = .ok (.pop, 1) := by decide +kernel
theorem own_d25_28 : decode jdk_78_method_2_code 28 = .ok (.aload_n 0, 1) := by decide +kernel
theorem own_d25_29 : decode jdk_78_method_2_code 29 = .ok (.aload_n 1, 1) := by decide +kernel
theorem own_d25_30 : decode jdk_78_method_2_code 30 = .ok (.putfield 31, 3) := by decide +kernel
theorem own_d25_33 : decode jdk_78_method_2_code 33 = .ok (.return_, 1) := by decide +kernel
set_option maxRecDepth 65536 in
set_option maxHeartbeats 40000000 in
theorem own_rm_thi (l : Launch) (Z : State) (a0 : Array Value) (hw : ∀ d ∈ tables_1, d.before a0 Z = true) (ws : List Jvm.Cond) (f x : Addr) (n0 : Nat) (h0 : Heap) (EF : Exa Z h0 f "com/example/titelfeld/titelfeld/command/CommandFailure") (UF : Unt h0 f) (F_0 : Fld Z h0 f "java/lang/Throwable" "cause" "Ljava/lang/Throwable;" .null) (F_1 : Fld Z h0 f "java/lang/Throwable" "stackTrace" "[Ljava/lang/StackTraceElement;" .null) (F_2 : Fld Z h0 f "java/lang/Throwable" "suppressedExceptions" "Ljava/util/List;" .null) (F_3 : Fld Z h0 f "java/lang/Throwable" "backtrace" "Ljava/lang/Object;" .null) (F_4 : Fld Z h0 f "java/lang/Throwable" "detailMessage" "Ljava/lang/String;" .null) (RF : Fld Z h0 f "com/example/titelfeld/titelfeld/command/CommandFailure" "reported" "Z" (.int (0 : Int32))) (gf : n0 ≤ f) (X00 : Old Z n0 h0) (hl : l.stackTraces = true) (u0 u1 : Value) (S0 : Sta Z Z.heap "java/lang/Throwable" "UNASSIGNED_STACK" "[Ljava/lang/StackTraceElement;" u0) (hu0 : u0.isRef = true) (S1 : Sta Z Z.heap "java/lang/Throwable" "SUPPRESSED_SENTINEL" "Ljava/util/List;" u1) (hu1 : u1.isRef = true) :
    MetFree l (⟨"java/lang/Throwable", "<init>", "(Ljava/lang/String;)V"⟩ : MethodName) (head1 (Jvm.Cond.code (⟨"java/lang/Throwable", "<init>", "(Ljava/lang/String;)V"⟩ : MethodName) jdk_78_method_2_code 2 none :: ws) ({ frames := 3, cells := 1, slots := 2752, locals := 42 } : Room)) (fun aa U => aa = #[(.ref f), (.ref x)] ∧ Z.Warmed39 U.vm ∧ U.heap = h0) (fun _ _ bl_ s_ _ => s_.vm.MethodsKnown ∧ s_.vm.FramesKnown bl_) (fun _ U o_ U' => ∃ v L, o_ = .returned v ∧ (own_Q_thi Z f x n0 h0) v U'.heap L ∧ FrameEnd U o_ U' L ({ frames := 3, cells := 1, slots := 2752, locals := 42 } : Room).cells ({ frames := 3, cells := 1, slots := 2752, locals := 42 } : Room).slots) := by
  refine MetFree.of_bodySF (plainFor_of_name own_pn5) hisR ?_
  intro p e s m args below meth c s₁ Bd hml0 hP hK
  obtain ⟨rfl, hZ, hh⟩ := hP
  have hx := Bd.exec
  have hby := Bd.bytes
  have hml : c.maxLocals = 2 := hml0
  have hlk : meth.locks = false := BodyLoose.notSynchronized Bd
  have hown : s.vm.findClass "java/lang/Throwable" = some m.cls := findClass_of_methodNamed Bd.named
  have hnm := (name_of_methodNamed Bd.named Bd.method).1
  have X0 : Stand p l e ({ frames := 3, cells := 1, slots := 2752, locals := 42 } : Room) s m #[(.ref f), (.ref x)] below meth c s₁ [] 0 0 := Stand.of_body Bd
  have e0 : s₁.heap = h0 := by rw [← hh, Bd.state]; rfl
  obtain ⟨hTK, hBelow⟩ := hK
  rw [own_ef5 m f x]
  show own_Go p e below s ({ frames := 3, cells := 1, slots := 2752, locals := 42 } : Room).cells ({ frames := 3, cells := 1, slots := 2752, locals := 42 } : Room).slots (own_Q_thi Z f x n0 h0) s₁ (mkF m 0 #[.val (.ref f), .val (.ref x)] [])
  have N0 := Fr.nil n0
  refine own_st (g' := (mkF m 1 #[.val (.ref f), .val (.ref x)] [(.ref f)])) (fun _ q => XS.aloadN X0.here hx rfl (hb hby own_d25_0) rfl rfl (q)) ?_
  obtain ⟨T1, X1, e1, st1⟩ := initO X0 hx hZ hown (hw _ (List.mem_of_getElem? (i := 181) rfl)) (hw _ (List.mem_of_getElem? (i := 12) rfl)) (hw _ (List.mem_of_getElem? (i := 13) rfl)) e0 (g := (mkF m 1 #[.val (.ref f), .val (.ref x)] [(.ref f)])) rfl (by rw [hml]; rfl) rfl (hb hby own_d25_1) (by decide) (W := 0) (by show 2 * 0 + _ ≤ _; exact Nat.le_of_eq rfl) (by decide)
  refine own_st (g' := (mkF m 4 #[.val (.ref f), .val (.ref x)] [])) st1 ?_
  refine own_st (g' := (mkF m 6 #[.val (.ref f), .val (.ref x)] [(.ref f), (.ref f)])) (fun _ q => XS.aloadN X1.here hx rfl (hb hby own_d25_4) rfl rfl (XS.aloadN X1.here hx rfl (hb hby own_d25_5) rfl rfl (q))) ?_
  obtain ⟨T2, h2, X2, e2, W2, st2⟩ := putF X1 hx hZ hown (host := "") (Or.inl (hw _ (List.mem_of_getElem? (i := 182) rfl))) Via.refl e1 F_0 EF (Or.inl (hw _ (List.mem_of_getElem? (i := 183) rfl))) (hw _ (List.mem_of_getElem? (i := 35) rfl)) (ty := (.object "java/lang/Throwable")) (by decide) rfl rfl (g := (mkF m 6 #[.val (.ref f), .val (.ref x)] [(.ref f), (.ref f)])) rfl rfl (hb hby own_d25_6)
  have F2 : Fld Z h2 f "java/lang/Throwable" "cause" "Ljava/lang/Throwable;" (.ref f) := F_0.same W2
  have N2 := Fr.snoc X2 N0 gf
  refine own_st (g' := (mkF m 9 #[.val (.ref f), .val (.ref x)] [])) st2 ?_
  refine own_st (g' := (mkF m 10 #[.val (.ref f), .val (.ref x)] [(.ref f)])) (fun _ q => XS.aloadN X2.here hx rfl (hb hby own_d25_9) rfl rfl (q)) ?_
  obtain ⟨T3, X3, e3, st3⟩ := getS2 X2 hx hZ hown (host := "") (Or.inl (hw _ (List.mem_of_getElem? (i := 184) rfl))) Via.refl e2 (S0.ext (X00.wr W2 gf).2) (g := (mkF m 10 #[.val (.ref f), .val (.ref x)] [(.ref f)])) rfl (hb hby own_d25_10)
  refine own_st (g' := (mkF m 13 #[.val (.ref f), .val (.ref x)] [u0, (.ref f)])) st3 ?_
  obtain ⟨T4, h4, X4, e4, W4, st4⟩ := putF X3 hx hZ hown (host := "") (Or.inl (hw _ (List.mem_of_getElem? (i := 185) rfl))) Via.refl e3 (F_1.other W2 (Or.inr (slot_ne (Or.inl (hw _ (List.mem_of_getElem? (i := 186) rfl))) (Or.inl (hw _ (List.mem_of_getElem? (i := 183) rfl))) (by decide) (t := (.array (.object "java/lang/StackTraceElement"))) (by decide) (t' := (.object "java/lang/Throwable")) (by decide)))) (EF.wr W2) (Or.inl (hw _ (List.mem_of_getElem? (i := 186) rfl))) (hw _ (List.mem_of_getElem? (i := 35) rfl)) (ty := (.array (.object "java/lang/StackTraceElement"))) (by decide) (own_nref hu0) (own_fref hu0) (g := (mkF m 13 #[.val (.ref f), .val (.ref x)] [u0, (.ref f)])) rfl rfl (hb hby own_d25_13)
  have F4 : Fld Z h4 f "java/lang/Throwable" "stackTrace" "[Ljava/lang/StackTraceElement;" u0 := (F_1.other W2 (Or.inr (slot_ne (Or.inl (hw _ (List.mem_of_getElem? (i := 186) rfl))) (Or.inl (hw _ (List.mem_of_getElem? (i := 183) rfl))) (by decide) (t := (.array (.object "java/lang/StackTraceElement"))) (by decide) (t' := (.object "java/lang/Throwable")) (by decide)))).same W4
  have N4 := Fr.snoc X4 N2 gf
  refine own_st (g' := (mkF m 16 #[.val (.ref f), .val (.ref x)] [])) st4 ?_
  refine own_st (g' := (mkF m 17 #[.val (.ref f), .val (.ref x)] [(.ref f)])) (fun _ q => XS.aloadN X4.here hx rfl (hb hby own_d25_16) rfl rfl (q)) ?_
  obtain ⟨T5, X5, e5, st5⟩ := getS2 X4 hx hZ hown (host := "") (Or.inl (hw _ (List.mem_of_getElem? (i := 187) rfl))) Via.refl e4 (S1.ext ((X00.wr W2 gf).wr W4 gf).2) (g := (mkF m 17 #[.val (.ref f), .val (.ref x)] [(.ref f)])) rfl (hb hby own_d25_17)
  refine own_st (g' := (mkF m 20 #[.val (.ref f), .val (.ref x)] [u1, (.ref f)])) st5 ?_
  obtain ⟨T6, h6, X6, e6, W6, st6⟩ := putF X5 hx hZ hown (host := "") (Or.inl (hw _ (List.mem_of_getElem? (i := 188) rfl))) Via.refl e5 ((F_2.other W2 (Or.inr (slot_ne (Or.inl (hw _ (List.mem_of_getElem? (i := 189) rfl))) (Or.inl (hw _ (List.mem_of_getElem? (i := 183) rfl))) (by decide) (t := (.object "java/util/List")) (by decide) (t' := (.object "java/lang/Throwable")) (by decide)))).other W4 (Or.inr (slot_ne (Or.inl (hw _ (List.mem_of_getElem? (i := 189) rfl))) (Or.inl (hw _ (List.mem_of_getElem? (i := 186) rfl))) (by decide) (t := (.object "java/util/List")) (by decide) (t' := (.array (.object "java/lang/StackTraceElement"))) (by decide)))) ((EF.wr W2).wr W4) (Or.inl (hw _ (List.mem_of_getElem? (i := 189) rfl))) (hw _ (List.mem_of_getElem? (i := 35) rfl)) (ty := (.object "java/util/List")) (by decide) (own_nref hu1) (own_fref hu1) (g := (mkF m 20 #[.val (.ref f), .val (.ref x)] [u1, (.ref f)])) rfl rfl (hb hby own_d25_20)
  have F6 : Fld Z h6 f "java/lang/Throwable" "suppressedExceptions" "Ljava/util/List;" u1 := ((F_2.other W2 (Or.inr (slot_ne (Or.inl (hw _ (List.mem_of_getElem? (i := 189) rfl))) (Or.inl (hw _ (List.mem_of_getElem? (i := 183) rfl))) (by decide) (t := (.object "java/util/List")) (by decide) (t' := (.object "java/lang/Throwable")) (by decide)))).other W4 (Or.inr (slot_ne (Or.inl (hw _ (List.mem_of_getElem? (i := 189) rfl))) (Or.inl (hw _ (List.mem_of_getElem? (i := 186) rfl))) (by decide) (t := (.object "java/util/List")) (by decide) (t' := (.array (.object "java/lang/StackTraceElement"))) (by decide)))).same W6
  have N6 := Fr.snoc X6 N4 gf
  refine own_st (g' := (mkF m 23 #[.val (.ref f), .val (.ref x)] [])) st6 ?_
  refine own_st (g' := (mkF m 24 #[.val (.ref f), .val (.ref x)] [(.ref f)])) (fun _ q => XS.aloadN X6.here hx rfl (hb hby own_d25_23) rfl rfl (q)) ?_
  obtain ⟨T7, h7, L7, X7, e7, bL7, E7, G7, st7⟩ := own_cFill X6 hx hl hZ (rc := "com/example/titelfeld/titelfeld/command/CommandFailure") (by decide) hown (hw _ (List.mem_of_getElem? (i := 35) rfl)) (own_excW hw) (by rw [hh]; exact ThS.ext X00.2 ThS.start) hTK hBelow e6 hu0 (((EF.wr W2).wr W4).wr W6) (Unt.wr W6 (Unt.wr W4 (Unt.wr W2 UF))) (F4.other W6 (Or.inr (slot_ne (Or.inl (hw _ (List.mem_of_getElem? (i := 186) rfl))) (Or.inl (hw _ (List.mem_of_getElem? (i := 189) rfl))) (by decide) (t := (.array (.object "java/lang/StackTraceElement"))) (by decide) (t' := (.object "java/util/List")) (by decide)))) (((F_3.other W2 (Or.inr (slot_ne (Or.inl (hw _ (List.mem_of_getElem? (i := 214) rfl))) (Or.inl (hw _ (List.mem_of_getElem? (i := 183) rfl))) (by decide) (t := (.object "java/lang/Object")) (by decide) (t' := (.object "java/lang/Throwable")) (by decide)))).other W4 (Or.inr (slot_ne (Or.inl (hw _ (List.mem_of_getElem? (i := 214) rfl))) (Or.inl (hw _ (List.mem_of_getElem? (i := 186) rfl))) (by decide) (t := (.object "java/lang/Object")) (by decide) (t' := (.array (.object "java/lang/StackTraceElement"))) (by decide)))).other W6 (Or.inr (slot_ne (Or.inl (hw _ (List.mem_of_getElem? (i := 214) rfl))) (Or.inl (hw _ (List.mem_of_getElem? (i := 189) rfl))) (by decide) (t := (.object "java/lang/Object")) (by decide) (t' := (.object "java/util/List")) (by decide)))) (S0.ext (((X00.wr W2 gf).wr W4 gf).wr W6 gf).2) (pc := 24) (Ls := #[.val (.ref f), .val (.ref x)]) (rest := []) (by rw [hml]; rfl) (hb hby own_d25_24) (by decide) (W0 := 0) (Nat.le_of_eq rfl) (by decide) (by decide) (by decide)
  have D7 : Fld Z h7 f "java/lang/Throwable" "detailMessage" "Ljava/lang/String;" .null := G7 (((F_4.other W2 (Or.inr (slot_ne (Or.inl (hw _ (List.mem_of_getElem? (i := 213) rfl))) (Or.inl (hw _ (List.mem_of_getElem? (i := 183) rfl))) (by decide) (t := (.object "java/lang/String")) (by decide) (t' := (.object "java/lang/Throwable")) (by decide)))).other W4 (Or.inr (slot_ne (Or.inl (hw _ (List.mem_of_getElem? (i := 213) rfl))) (Or.inl (hw _ (List.mem_of_getElem? (i := 186) rfl))) (by decide) (t := (.object "java/lang/String")) (by decide) (t' := (.array (.object "java/lang/StackTraceElement"))) (by decide)))).other W6 (Or.inr (slot_ne (Or.inl (hw _ (List.mem_of_getElem? (i := 213) rfl))) (Or.inl (hw _ (List.mem_of_getElem? (i := 189) rfl))) (by decide) (t := (.object "java/lang/String")) (by decide) (t' := (.object "java/util/List")) (by decide)))) (slot_ne (Or.inl (hw _ (List.mem_of_getElem? (i := 213) rfl))) (Or.inl (hw _ (List.mem_of_getElem? (i := 214) rfl))) (by decide) (t := (.object "java/lang/String")) (by decide) (t' := (.object "java/lang/Object")) (by decide)) (slot_ne (Or.inl (hw _ (List.mem_of_getElem? (i := 213) rfl))) (Or.inl (hw _ (List.mem_of_getElem? (i := 215) rfl))) (by decide) (t := (.object "java/lang/String")) (by decide) (t' := .int) (by decide)) (slot_ne (Or.inl (hw _ (List.mem_of_getElem? (i := 213) rfl))) (Or.inl (hw _ (List.mem_of_getElem? (i := 186) rfl))) (by decide) (t := (.object "java/lang/String")) (by decide) (t' := (.array (.object "java/lang/StackTraceElement"))) (by decide))
  have R7 : Fld Z h7 f "com/example/titelfeld/titelfeld/command/CommandFailure" "reported" "Z" (.int (0 : Int32)) := G7 (((RF.other W2 (Or.inr (slot_ne (Or.inr (hw _ (List.mem_of_getElem? (i := 219) rfl))) (Or.inl (hw _ (List.mem_of_getElem? (i := 183) rfl))) (by decide) (t := .boolean) (by decide) (t' := (.object "java/lang/Throwable")) (by decide)))).other W4 (Or.inr (slot_ne (Or.inr (hw _ (List.mem_of_getElem? (i := 219) rfl))) (Or.inl (hw _ (List.mem_of_getElem? (i := 186) rfl))) (by decide) (t := .boolean) (by decide) (t' := (.array (.object "java/lang/StackTraceElement"))) (by decide)))).other W6 (Or.inr (slot_ne (Or.inr (hw _ (List.mem_of_getElem? (i := 219) rfl))) (Or.inl (hw _ (List.mem_of_getElem? (i := 189) rfl))) (by decide) (t := .boolean) (by decide) (t' := (.object "java/util/List")) (by decide)))) (slot_ne (Or.inr (hw _ (List.mem_of_getElem? (i := 219) rfl))) (Or.inl (hw _ (List.mem_of_getElem? (i := 214) rfl))) (by decide) (t := .boolean) (by decide) (t' := (.object "java/lang/Object")) (by decide)) (slot_ne (Or.inr (hw _ (List.mem_of_getElem? (i := 219) rfl))) (Or.inl (hw _ (List.mem_of_getElem? (i := 215) rfl))) (by decide) (t := .boolean) (by decide) (t' := .int) (by decide)) (slot_ne (Or.inr (hw _ (List.mem_of_getElem? (i := 219) rfl))) (Or.inl (hw _ (List.mem_of_getElem? (i := 186) rfl))) (by decide) (t := .boolean) (by decide) (t' := (.array (.object "java/lang/StackTraceElement"))) (by decide))
  have N7 := Fr.app N6 (fun y hy => by rw [bL7 y hy]; exact gf)
  refine own_st (g' := (mkF m 27 #[.val (.ref f), .val (.ref x)] [(.ref f)])) st7 ?_
  refine own_st (g' := (mkF m 30 #[.val (.ref f), .val (.ref x)] [(.ref x), (.ref f)])) (fun _ q => XS.pop X7.here hx rfl (hb hby own_d25_27) rfl rfl (XS.aloadN X7.here hx rfl (hb hby own_d25_28) rfl rfl (XS.aloadN X7.here hx rfl (hb hby own_d25_29) rfl rfl (q)))) ?_
  obtain ⟨T8, h8, X8, e8, W8, st8⟩ := putF X7 hx hZ hown (host := "") (Or.inl (hw _ (List.mem_of_getElem? (i := 217) rfl))) Via.refl e7 D7 E7 (Or.inl (hw _ (List.mem_of_getElem? (i := 213) rfl))) (hw _ (List.mem_of_getElem? (i := 35) rfl)) (ty := (.object "java/lang/String")) (by decide) rfl rfl (g := (mkF m 30 #[.val (.ref f), .val (.ref x)] [(.ref x), (.ref f)])) rfl rfl (hb hby own_d25_30)
  have F8 : Fld Z h8 f "java/lang/Throwable" "detailMessage" "Ljava/lang/String;" (.ref x) := D7.same W8
  have N8 := Fr.snoc X8 N7 gf
  refine own_st (g' := (mkF m 33 #[.val (.ref f), .val (.ref x)] [])) st8 ?_
  have KK : Keep h0 h8 [f] := by
    have q_ := own_keepSame X8 (own_bS (own_bA (own_bS (own_bS (own_bS own_b0))) bL7))
    rw [hh, e8] at q_
    exact q_
  exact own_goV X8 hlk hx Bd.returns (hb hby own_d25_33) (by rw [e8]; exact ⟨rfl, N8, KK, (E7.wr W8), F8, (R7.other W8 (Or.inr (slot_ne (Or.inr (hw _ (List.mem_of_getElem? (i := 219) rfl))) (Or.inl (hw _ (List.mem_of_getElem? (i := 213) rfl))) (by decide) (t := .boolean) (by decide) (t' := (.object "java/lang/String")) (by decide))))⟩) (by decide) (by decide)
theorem own_pn6 : plainName "java/lang/Exception" = true := by first | (simp [plainName, overriddenIn]; done) | decide +kernel
abbrev own_Q_exi (Z : State) (f x : Addr) (n0 : Nat) (h0 : Heap) : Option Value → Heap → List Loc → Prop := fun v h L => v = none ∧ Fr n0 L ∧ Keep h0 h [f] ∧ Exa Z h f "com/example/titelfeld/titelfeld/command/CommandFailure" ∧ Fld Z h f "java/lang/Throwable" "detailMessage" "Ljava/lang/String;" (.ref x) ∧ Fld Z h f "com/example/titelfeld/titelfeld/command/CommandFailure" "reported" "Z" (.int (0 : Int32))
theorem own_d26_0 : decode jdk_59_method_2_code 0 = .ok (.aload_n 0, 1) := by decide +kernel
theorem own_d26_1 : decode jdk_59_method_2_code 1 = .ok (.aload_n 1, 1) := by decide +kernel
theorem own_d26_2 : decode jdk_59_method_2_code 2 = .ok (.invokespecial 7, 3) := by decide +kernel
theorem own_d26_5 : decode jdk_59_method_2_code 5 = .ok (.return_, 1) := by decide +kernel
set_option maxRecDepth 65536 in
set_option maxHeartbeats 40000000 in
theorem own_rm_exi (l : Launch) (Z : State) (a0 : Array Value) (hw : ∀ d ∈ tables_1, d.before a0 Z = true) (ws : List Jvm.Cond) (f x : Addr) (n0 : Nat) (h0 : Heap) (EF : Exa Z h0 f "com/example/titelfeld/titelfeld/command/CommandFailure") (UF : Unt h0 f) (F_0 : Fld Z h0 f "java/lang/Throwable" "cause" "Ljava/lang/Throwable;" .null) (F_1 : Fld Z h0 f "java/lang/Throwable" "stackTrace" "[Ljava/lang/StackTraceElement;" .null) (F_2 : Fld Z h0 f "java/lang/Throwable" "suppressedExceptions" "Ljava/util/List;" .null) (F_3 : Fld Z h0 f "java/lang/Throwable" "backtrace" "Ljava/lang/Object;" .null) (F_4 : Fld Z h0 f "java/lang/Throwable" "detailMessage" "Ljava/lang/String;" .null) (RF : Fld Z h0 f "com/example/titelfeld/titelfeld/command/CommandFailure" "reported" "Z" (.int (0 : Int32))) (gf : n0 ≤ f) (X00 : Old Z n0 h0) (hl : l.stackTraces = true) (u0 u1 : Value) (S0 : Sta Z Z.heap "java/lang/Throwable" "UNASSIGNED_STACK" "[Ljava/lang/StackTraceElement;" u0) (hu0 : u0.isRef = true) (S1 : Sta Z Z.heap "java/lang/Throwable" "SUPPRESSED_SENTINEL" "Ljava/util/List;" u1) (hu1 : u1.isRef = true) :
    MetFree l (⟨"java/lang/Exception", "<init>", "(Ljava/lang/String;)V"⟩ : MethodName) (head1 (Jvm.Cond.code (⟨"java/lang/Exception", "<init>", "(Ljava/lang/String;)V"⟩ : MethodName) jdk_59_method_2_code 2 none :: ws) ({ frames := 4, cells := 1, slots := 2752, locals := 55 } : Room)) (fun aa U => aa = #[(.ref f), (.ref x)] ∧ Z.Warmed39 U.vm ∧ U.heap = h0) (fun _ _ bl_ s_ _ => s_.vm.MethodsKnown ∧ s_.vm.FramesKnown bl_) (fun _ U o_ U' => ∃ v L, o_ = .returned v ∧ (own_Q_exi Z f x n0 h0) v U'.heap L ∧ FrameEnd U o_ U' L ({ frames := 4, cells := 1, slots := 2752, locals := 55 } : Room).cells ({ frames := 4, cells := 1, slots := 2752, locals := 55 } : Room).slots) := by
  refine MetFree.of_bodySF (plainFor_of_name own_pn6) hisR ?_
  intro p e s m args below meth c s₁ Bd hml0 hP hK
  obtain ⟨rfl, hZ, hh⟩ := hP
  have hx := Bd.exec
  have hby := Bd.bytes
  have hml : c.maxLocals = 2 := hml0
  have hlk : meth.locks = false := BodyLoose.notSynchronized Bd
  have hown : s.vm.findClass "java/lang/Exception" = some m.cls := findClass_of_methodNamed Bd.named
  have hnm := (name_of_methodNamed Bd.named Bd.method).1
  have X0 : Stand p l e ({ frames := 4, cells := 1, slots := 2752, locals := 55 } : Room) s m #[(.ref f), (.ref x)] below meth c s₁ [] 0 0 := Stand.of_body Bd
  have e0 : s₁.heap = h0 := by rw [← hh, Bd.state]; rfl
  obtain ⟨hTK, hBelow⟩ := hK
  rw [own_ef5 m f x]
  show own_Go p e below s ({ frames := 4, cells := 1, slots := 2752, locals := 55 } : Room).cells ({ frames := 4, cells := 1, slots := 2752, locals := 55 } : Room).slots (own_Q_exi Z f x n0 h0) s₁ (mkF m 0 #[.val (.ref f), .val (.ref x)] [])
  have N0 := Fr.nil n0
  refine own_st (g' := (mkF m 2 #[.val (.ref f), .val (.ref x)] [(.ref x), (.ref f)])) (fun _ q => XS.aloadN X0.here hx rfl (hb hby own_d26_0) rfl rfl (XS.aloadN X0.here hx rfl (hb hby own_d26_1) rfl rfl (q))) ?_
  have K1 : own_Bk l ({ frames := 4, cells := 1, slots := 2752, locals := 55 } : Room) p e below s #[(.ref f), (.ref x)] (⟨"java/lang/Throwable", "<init>", "(Ljava/lang/String;)V"⟩ : MethodName) 0 h0 #[(.ref f), (.ref x)] 1 2752 (own_Q_thi Z f x n0 h0) := backOfKL (s := s) (R := ({ frames := 4, cells := 1, slots := 2752, locals := 55 } : Room)) (W := 0) (Q := (own_Q_thi Z f x n0 h0)) (rm := ({ frames := 3, cells := 1, slots := 2752, locals := 42 } : Room)) (own_rm_thi l Z a0 hw [] f x n0 h0 EF UF F_0 F_1 F_2 F_3 F_4 RF gf X00 hl u0 u1 S0 hu0 S1 hu1) hZ (hw _ (List.mem_of_getElem? (i := 180) rfl)) (hw _ (List.mem_of_getElem? (i := 179) rfl)) (by decide) (by decide) hTK hBelow
  obtain ⟨_, L2, T2, X2, ⟨rfl, N2q, K2, E2, D2, R2⟩, st2⟩ := own_cI X0 hx hZ rfl hown (hw _ (List.mem_of_getElem? (i := 175) rfl)) (hw _ (List.mem_of_getElem? (i := 176) rfl)) (hw _ (List.mem_of_getElem? (i := 180) rfl)) (by decide) e0 (h := h0) (b := f) (argsL := [(.ref x)]) (rest := []) K1 (pc := 2) (Ls := #[.val (.ref f), .val (.ref x)]) (by rw [hml]; rfl) (lenOf own_pd5 rfl) rfl (Nat.le_of_eq rfl) (hb hby own_d26_2) (by decide) (by decide)
  have N2 := Fr.app N0 N2q
  refine own_st (g' := (mkF m 5 #[.val (.ref f), .val (.ref x)] [])) st2 ?_
  exact own_goV X2 hlk hx Bd.returns (hb hby own_d26_5) ⟨rfl, N2, ((Keep.refl h0 [f]).trans K2 (allS (Or.inl (List.mem_of_getElem? (i := 0) rfl)) all0)), E2, D2, R2⟩ (by decide) (by decide)
theorem own_ef13 (m : MethodId) (x0 : Addr) (x1 : Addr) (x2 : Int32) : entryFrame m #[(.ref x0), (.ref x1), (.int x2)] 3 = mkF m 0 #[.val (.ref x0), .val (.ref x1), .val (.int x2)] [] := by first | (simp [entryFrame, mkF, argsToLocals, Value.category, maxLocals]; done) | rfl
theorem own_pn7 : plainName "com/example/titelfeld/titelfeld/command/CommandFailure" = true := by first | (simp [plainName, overriddenIn]; done) | decide +kernel
abbrev own_Q_cfi (Z : State) (f x : Addr) (n0 : Nat) (h0 : Heap) : Option Value → Heap → List Loc → Prop := fun v h L => v = none ∧ Fr n0 L ∧ Keep h0 h [f] ∧ Exa Z h f "com/example/titelfeld/titelfeld/command/CommandFailure" ∧ Fld Z h f "java/lang/Throwable" "detailMessage" "Ljava/lang/String;" (.ref x) ∧ Fld Z h f "com/example/titelfeld/titelfeld/command/CommandFailure" "reported" "Z" (.int (1 : Int32))
theorem own_d27_0 : decode prog_3_method_2_code 0 = .ok (.aload_n 0, 1) := by decide +kernel
theorem own_d27_1 : decode prog_3_method_2_code 1 = .ok (.aload_n 1, 1) := by decide +kernel
theorem own_d27_2 : decode prog_3_method_2_code 2 = .ok (.invokespecial 7, 3) := by decide +kernel
theorem own_d27_5 : decode prog_3_method_2_code 5 = .ok (.aload_n 0, 1) := by decide +kernel
theorem own_d27_6 : decode prog_3_method_2_code 6 = .ok (.iload_n 2, 1) := by decide +kernel
theorem own_d27_7 : decode prog_3_method_2_code 7 = .ok (.putfield 12, 3) := by decide +kernel
theorem own_d27_10 : decode prog_3_method_2_code 10 = .ok (.return_, 1) := by decide +kernel
set_option maxRecDepth 65536 in
set_option maxHeartbeats 40000000 in
theorem own_rm_cfi (l : Launch) (Z : State) (a0 : Array Value) (hw : ∀ d ∈ tables_1, d.before a0 Z = true) (ws : List Jvm.Cond) (f x : Addr) (n0 : Nat) (h0 : Heap) (EF : Exa Z h0 f "com/example/titelfeld/titelfeld/command/CommandFailure") (UF : Unt h0 f) (F_0 : Fld Z h0 f "java/lang/Throwable" "cause" "Ljava/lang/Throwable;" .null) (F_1 : Fld Z h0 f "java/lang/Throwable" "stackTrace" "[Ljava/lang/StackTraceElement;" .null) (F_2 : Fld Z h0 f "java/lang/Throwable" "suppressedExceptions" "Ljava/util/List;" .null) (F_3 : Fld Z h0 f "java/lang/Throwable" "backtrace" "Ljava/lang/Object;" .null) (F_4 : Fld Z h0 f "java/lang/Throwable" "detailMessage" "Ljava/lang/String;" .null) (RF : Fld Z h0 f "com/example/titelfeld/titelfeld/command/CommandFailure" "reported" "Z" (.int (0 : Int32))) (gf : n0 ≤ f) (X00 : Old Z n0 h0) (hl : l.stackTraces = true) (u0 u1 : Value) (S0 : Sta Z Z.heap "java/lang/Throwable" "UNASSIGNED_STACK" "[Ljava/lang/StackTraceElement;" u0) (hu0 : u0.isRef = true) (S1 : Sta Z Z.heap "java/lang/Throwable" "SUPPRESSED_SENTINEL" "Ljava/util/List;" u1) (hu1 : u1.isRef = true) :
    MetFree l (⟨"com/example/titelfeld/titelfeld/command/CommandFailure", "<init>", "(Ljava/lang/String;Z)V"⟩ : MethodName) (head1 (Jvm.Cond.code (⟨"com/example/titelfeld/titelfeld/command/CommandFailure", "<init>", "(Ljava/lang/String;Z)V"⟩ : MethodName) prog_3_method_2_code 3 none :: ws) ({ frames := 5, cells := 1, slots := 2752, locals := 68 } : Room)) (fun aa U => aa = #[(.ref f), (.ref x), (.int (1 : Int32))] ∧ Z.Warmed39 U.vm ∧ U.heap = h0) (fun _ _ bl_ s_ _ => s_.vm.MethodsKnown ∧ s_.vm.FramesKnown bl_) (fun _ U o_ U' => ∃ v L, o_ = .returned v ∧ (own_Q_cfi Z f x n0 h0) v U'.heap L ∧ FrameEnd U o_ U' L ({ frames := 5, cells := 1, slots := 2752, locals := 68 } : Room).cells ({ frames := 5, cells := 1, slots := 2752, locals := 68 } : Room).slots) := by
  refine MetFree.of_bodySF (plainFor_of_name own_pn7) hisR ?_
  intro p e s m args below meth c s₁ Bd hml0 hP hK
  obtain ⟨rfl, hZ, hh⟩ := hP
  have hx := Bd.exec
  have hby := Bd.bytes
  have hml : c.maxLocals = 3 := hml0
  have hlk : meth.locks = false := BodyLoose.notSynchronized Bd
  have hown : s.vm.findClass "com/example/titelfeld/titelfeld/command/CommandFailure" = some m.cls := findClass_of_methodNamed Bd.named
  have hnm := (name_of_methodNamed Bd.named Bd.method).1
  have X0 : Stand p l e ({ frames := 5, cells := 1, slots := 2752, locals := 68 } : Room) s m #[(.ref f), (.ref x), (.int (1 : Int32))] below meth c s₁ [] 0 0 := Stand.of_body Bd
  have e0 : s₁.heap = h0 := by rw [← hh, Bd.state]; rfl
  obtain ⟨hTK, hBelow⟩ := hK
  rw [own_ef13 m f x (1 : Int32)]
  show own_Go p e below s ({ frames := 5, cells := 1, slots := 2752, locals := 68 } : Room).cells ({ frames := 5, cells := 1, slots := 2752, locals := 68 } : Room).slots (own_Q_cfi Z f x n0 h0) s₁ (mkF m 0 #[.val (.ref f), .val (.ref x), .val (.int (1 : Int32))] [])
  have N0 := Fr.nil n0
  refine own_st (g' := (mkF m 2 #[.val (.ref f), .val (.ref x), .val (.int (1 : Int32))] [(.ref x), (.ref f)])) (fun _ q => XS.aloadN X0.here hx rfl (hb hby own_d27_0) rfl rfl (XS.aloadN X0.here hx rfl (hb hby own_d27_1) rfl rfl (q))) ?_
  have K1 : own_Bk l ({ frames := 5, cells := 1, slots := 2752, locals := 68 } : Room) p e below s #[(.ref f), (.ref x), (.int (1 : Int32))] (⟨"java/lang/Exception", "<init>", "(Ljava/lang/String;)V"⟩ : MethodName) 0 h0 #[(.ref f), (.ref x)] 1 2752 (own_Q_exi Z f x n0 h0) := backOfKL (s := s) (R := ({ frames := 5, cells := 1, slots := 2752, locals := 68 } : Room)) (W := 0) (Q := (own_Q_exi Z f x n0 h0)) (rm := ({ frames := 4, cells := 1, slots := 2752, locals := 55 } : Room)) (own_rm_exi l Z a0 hw [] f x n0 h0 EF UF F_0 F_1 F_2 F_3 F_4 RF gf X00 hl u0 u1 S0 hu0 S1 hu1) hZ (hw _ (List.mem_of_getElem? (i := 174) rfl)) (hw _ (List.mem_of_getElem? (i := 173) rfl)) (by decide) (by decide) hTK hBelow
  obtain ⟨_, L2, T2, X2, ⟨rfl, N2q, K2, E2, D2, R2⟩, st2⟩ := own_cI X0 hx hZ rfl hown (hw _ (List.mem_of_getElem? (i := 170) rfl)) (hw _ (List.mem_of_getElem? (i := 171) rfl)) (hw _ (List.mem_of_getElem? (i := 174) rfl)) (by decide) e0 (h := h0) (b := f) (argsL := [(.ref x)]) (rest := []) K1 (pc := 2) (Ls := #[.val (.ref f), .val (.ref x), .val (.int (1 : Int32))]) (by rw [hml]; rfl) (lenOf own_pd5 rfl) rfl (Nat.le_of_eq rfl) (hb hby own_d27_2) (by decide) (by decide)
  have N2 := Fr.app N0 N2q
  refine own_st (g' := (mkF m 5 #[.val (.ref f), .val (.ref x), .val (.int (1 : Int32))] [])) st2 ?_
  refine own_st (g' := (mkF m 7 #[.val (.ref f), .val (.ref x), .val (.int (1 : Int32))] [(.int (1 : Int32)), (.ref f)])) (fun _ q => XS.aloadN X2.here hx rfl (hb hby own_d27_5) rfl rfl (XS.iloadN X2.here hx rfl (hb hby own_d27_6) rfl (q))) ?_
  obtain ⟨T3, h3, X3, e3, W3, st3⟩ := putFN X2 hx hZ hown (hw _ (List.mem_of_getElem? (i := 218) rfl)) Via.refl rfl R2 E2 (Or.inr ⟨(hw _ (List.mem_of_getElem? (i := 219) rfl)), rfl, hnm⟩) (hw _ (List.mem_of_getElem? (i := 35) rfl)) (ty := .boolean) (v' := .int (1 : Int32)) (by decide) rfl rfl (g := (mkF m 7 #[.val (.ref f), .val (.ref x), .val (.int (1 : Int32))] [(.int (1 : Int32)), (.ref f)])) rfl rfl (hb hby own_d27_7)
  have F3 : Fld Z h3 f "com/example/titelfeld/titelfeld/command/CommandFailure" "reported" "Z" (.int (1 : Int32)) := R2.same W3
  have N3 := Fr.snoc X3 N2 gf
  refine own_st (g' := (mkF m 10 #[.val (.ref f), .val (.ref x), .val (.int (1 : Int32))] [])) st3 ?_
  exact own_goV X3 hlk hx Bd.returns (hb hby own_d27_10) (by rw [e3]; exact ⟨rfl, N3, (((Keep.refl h0 [f]).trans K2 (allS (Or.inl (List.mem_of_getElem? (i := 0) rfl)) all0)).wr W3 (Or.inl (List.mem_of_getElem? (i := 0) rfl))), (E2.wr W3), (D2.other W3 (Or.inr (slot_ne (Or.inl (hw _ (List.mem_of_getElem? (i := 213) rfl))) (Or.inr (hw _ (List.mem_of_getElem? (i := 219) rfl))) (by decide) (t := (.object "java/lang/String")) (by decide) (t' := .boolean) (by decide)))), F3⟩) (by decide) (by decide)
abbrev own_msg (us ws : List Value) : List Value := ((([] ++ [(.int (99 : Int32)), (.int (97 : Int32)), (.int (110 : Int32)), (.int (110 : Int32)), (.int (111 : Int32)), (.int (116 : Int32)), (.int (32 : Int32)), (.int (114 : Int32)), (.int (101 : Int32)), (.int (97 : Int32)), (.int (100 : Int32)), (.int (32 : Int32))]) ++ us) ++ [(.int (58 : Int32)), (.int (32 : Int32))]) ++ ws
abbrev own_Q_rdst (Z : State) (x t y u : Addr) (kt ku : ClassId) (us wv : List Value) (n0 : Nat) (z : Int32) (h0 : Heap) : Option Value → Heap → List Loc → Prop := fun v h L => Fr n0 L ∧ Keep h0 h [] ∧ ∃ f x' t' kt', v = some (.ref f) ∧ Exa Z h f "com/example/titelfeld/titelfeld/command/CommandFailure" ∧ Fld Z h f "java/lang/Throwable" "detailMessage" "Ljava/lang/String;" (.ref x') ∧ Fld Z h f "com/example/titelfeld/titelfeld/command/CommandFailure" "reported" "Z" (.int (1 : Int32)) ∧ Exa Z h x' "java/lang/String" ∧ Fld Z h x' "java/lang/String" "value" "[B" (.ref t') ∧ Fld Z h x' "java/lang/String" "coder" "B" (.int (0 : Int32)) ∧ Arv Z h t' kt' .byte (Int32.ofNat 18) (own_msg us wv) (.int (0 : Int32))
theorem own_d28_0 : decode prog_3_method_5_code 0 = .ok (.new 2, 3) := by decide +kernel
theorem own_d28_3 : decode prog_3_method_5_code 3 = .ok (.dup, 1) := by decide +kernel
theorem own_d28_4 : decode prog_3_method_5_code 4 = .ok (.new 16, 3) := by decide +kernel
theorem own_d28_7 : decode prog_3_method_5_code 7 = .ok (.dup, 1) := by decide +kernel
theorem own_d28_8 : decode prog_3_method_5_code 8 = .ok (.invokespecial 18, 3) := by decide +kernel
theorem own_pd17 : parseMethodDescriptor "()V" = some ⟨[], none⟩ := by decide +kernel
theorem own_d28_11 : decode prog_3_method_5_code 11 = .ok (.ldc 32, 2) := by decide +kernel
theorem own_d28_13 : decode prog_3_method_5_code 13 = .ok (.invokevirtual 21, 3) := by decide +kernel
theorem own_pd18 : parseMethodDescriptor "(Ljava/lang/String;)Ljava/lang/StringBuilder;" = some ⟨[(.object "java/lang/String")], some (.object "java/lang/StringBuilder")⟩ := by decide +kernel
theorem own_d28_16 : decode prog_3_method_5_code 16 = .ok (.aload_n 0, 1) := by decide +kernel
theorem own_d28_17 : decode prog_3_method_5_code 17 = .ok (.invokevirtual 21, 3) := by decide +kernel
theorem own_d28_20 : decode prog_3_method_5_code 20 = .ok (.ldc 34, 2) := by decide +kernel
theorem own_d28_22 : decode prog_3_method_5_code 22 = .ok (.invokevirtual 21, 3) := by decide +kernel
theorem own_d28_25 : decode prog_3_method_5_code 25 = .ok (.aload_n 1, 1) := by decide +kernel
theorem own_d28_26 : decode prog_3_method_5_code 26 = .ok (.invokevirtual 21, 3) := by decide +kernel
theorem own_d28_29 : decode prog_3_method_5_code 29 = .ok (.invokevirtual 27, 3) := by decide +kernel
theorem own_pd19 : parseMethodDescriptor "()Ljava/lang/String;" = some ⟨[], some (.object "java/lang/String")⟩ := by decide +kernel
theorem own_d28_32 : decode prog_3_method_5_code 32 = .ok (.iconst 1, 1) := by decide +kernel
theorem own_d28_33 : decode prog_3_method_5_code 33 = .ok (.invokespecial 1, 3) := by decide +kernel
theorem own_pd20 : parseMethodDescriptor "(Ljava/lang/String;Z)V" = some ⟨[(.object "java/lang/String"), .boolean], none⟩ := by decide +kernel
theorem own_d28_36 : decode prog_3_method_5_code 36 = .ok (.areturn, 1) := by decide +kernel
set_option maxRecDepth 65536 in
set_option maxHeartbeats 40000000 in
theorem own_rm_rdst (l : Launch) (Z : State) (a0 : Array Value) (hw : ∀ d ∈ tables_1, d.before a0 Z = true) (ws : List Jvm.Cond) (x t y u : Addr) (kt ku : ClassId) (us wv : List Value) (n0 : Nat) (z : Int32) (h0 : Heap) (EX : Exa Z h0 x "java/lang/String") (FX : Fld Z h0 x "java/lang/String" "value" "[B" (.ref t)) (CX : Fld Z h0 x "java/lang/String" "coder" "B" (.int (0 : Int32))) (VX : Arv Z h0 t kt .byte (Int32.ofNat 2) us (.int (0 : Int32))) (lu : us.length = 2) (EX2 : Exa Z h0 y "java/lang/String") (FX2 : Fld Z h0 y "java/lang/String" "value" "[B" (.ref u)) (CX2 : Fld Z h0 y "java/lang/String" "coder" "B" (.int (0 : Int32))) (VX2 : Arv Z h0 u ku .byte (Int32.ofNat 2) wv (.int (0 : Int32))) (lu2 : wv.length = 2) (Z0 : n0 ≤ h0.size) (X00 : Old Z n0 h0) (O : Sta Z Z.heap "java/lang/String" "COMPACT_STRINGS" "Z" (.int z)) (hz : ¬ z = (0 : Int32)) (hl : l.stackTraces = true) (u0 u1 : Value) (S0 : Sta Z Z.heap "java/lang/Throwable" "UNASSIGNED_STACK" "[Ljava/lang/StackTraceElement;" u0) (hu0 : u0.isRef = true) (S1 : Sta Z Z.heap "java/lang/Throwable" "SUPPRESSED_SENTINEL" "Ljava/util/List;" u1) (hu1 : u1.isRef = true) :
    MetFree l (⟨"com/example/titelfeld/titelfeld/command/CommandFailure", "readingStopped", "(Ljava/lang/String;Ljava/lang/String;)Lcom/example/titelfeld/titelfeld/command/CommandFailure;"⟩ : MethodName) (head1 (Jvm.Cond.code (⟨"com/example/titelfeld/titelfeld/command/CommandFailure", "readingStopped", "(Ljava/lang/String;Ljava/lang/String;)Lcom/example/titelfeld/titelfeld/command/CommandFailure;"⟩ : MethodName) prog_3_method_5_code 2 (some (.object "com/example/titelfeld/titelfeld/command/CommandFailure")) :: ws) ({ frames := 6, cells := 11, slots := 3103, locals := 96 } : Room)) (fun aa U => aa = #[(.ref x), (.ref y)] ∧ Z.Warmed39 U.vm ∧ U.heap = h0 ∧ CHv Z own_EL U.vm h0 ∧ ∀ y_ ∈ ([] : List Addr), Safe Z own_EL U.vm h0 y_) (fun _ _ bl_ s_ _ => s_.vm.MethodsKnown ∧ s_.vm.FramesKnown bl_) (fun _ U o_ U' => ∃ v L, o_ = .returned v ∧ (own_Q_rdst Z x t y u kt ku us wv n0 z h0) v U'.heap L ∧ CHr Z own_EL U.vm U.heap U'.vm U'.heap ∧ ReturnedEndW U o_ U' L ({ frames := 6, cells := 11, slots := 3103, locals := 96 } : Room).cells ({ frames := 6, cells := 11, slots := 3103, locals := 96 } : Room).slots) := by
  refine MetFree.of_bodySF (plainFor_of_name own_pn7) hisR ?_
  intro p e s m args below meth c s₁ Bd hml0 hP hK
  obtain ⟨rfl, hZ, hh, hH, hSf⟩ := hP
  have hx := Bd.exec
  have hby := Bd.bytes
  have hml : c.maxLocals = 2 := hml0
  have hlk : meth.locks = false := BodyLoose.notSynchronized Bd
  have hown : s.vm.findClass "com/example/titelfeld/titelfeld/command/CommandFailure" = some m.cls := findClass_of_methodNamed Bd.named
  have hnm := (name_of_methodNamed Bd.named Bd.method).1
  have X0 : Stand p l e ({ frames := 6, cells := 11, slots := 3103, locals := 96 } : Room) (s.setVm s.vm) m #[(.ref x), (.ref y)] below meth c s₁ [] 0 0 := Stand.of_body Bd
  have e0 : s₁.heap = h0 := by rw [← hh, Bd.state]; rfl
  have hEL : EW Z a0 own_EL := own_ew hw
  have hSA : ∀ a ∈ Bundle.stringAtoms, a.before a0 Z = true := own_wS hw
  have W0 : own_W s Z own_EL "com/example/titelfeld/titelfeld/command/CommandFailure" m.cls h0 s.vm h0 := own_W.start hZ hown hH
  obtain ⟨hTK, hBelow⟩ := hK
  rw [own_ef5 m x y]
  show own_GoW p e below s Z own_EL ({ frames := 6, cells := 11, slots := 3103, locals := 96 } : Room).cells ({ frames := 6, cells := 11, slots := 3103, locals := 96 } : Room).slots (own_Q_rdst Z x t y u kt ku us wv n0 z h0) s₁ (mkF m 0 #[.val (.ref x), .val (.ref y)] [])
  have N0 := Fr.nil n0
  obtain ⟨T1, h1, X1, e1, E1, A1, D1, U1, st1⟩ := newO X0 hx W0.2.1 W0.2.2.1 (hw _ (List.mem_of_getElem? (i := 34) rfl)) (hw _ (List.mem_of_getElem? (i := 35) rfl)) (hw _ (List.mem_of_getElem? (i := 32) rfl)) e0 (g := (mkF m 0 #[.val (.ref x), .val (.ref y)] [])) rfl (hb hby own_d28_0) (by decide) (by decide)
  obtain ⟨b1, g1⟩ : ∃ z, z = h0.size := ⟨_, rfl⟩
  rw [← g1] at A1 D1 U1 st1
  have w2 := W0.ext E1
  have F1_cause : Fld Z h1 b1 "java/lang/Throwable" "cause" "Ljava/lang/Throwable;" .null := D1 (Or.inl (hw _ (List.mem_of_getElem? (i := 183) rfl))) (ty := (.object "java/lang/Throwable")) (by decide)
  have F1_stackTrace : Fld Z h1 b1 "java/lang/Throwable" "stackTrace" "[Ljava/lang/StackTraceElement;" .null := D1 (Or.inl (hw _ (List.mem_of_getElem? (i := 186) rfl))) (ty := (.array (.object "java/lang/StackTraceElement"))) (by decide)
  have F1_suppressedExceptions : Fld Z h1 b1 "java/lang/Throwable" "suppressedExceptions" "Ljava/util/List;" .null := D1 (Or.inl (hw _ (List.mem_of_getElem? (i := 189) rfl))) (ty := (.object "java/util/List")) (by decide)
  have F1_detailMessage : Fld Z h1 b1 "java/lang/Throwable" "detailMessage" "Ljava/lang/String;" .null := D1 (Or.inl (hw _ (List.mem_of_getElem? (i := 213) rfl))) (ty := (.object "java/lang/String")) (by decide)
  have F1_backtrace : Fld Z h1 b1 "java/lang/Throwable" "backtrace" "Ljava/lang/Object;" .null := D1 (Or.inl (hw _ (List.mem_of_getElem? (i := 214) rfl))) (ty := (.object "java/lang/Object")) (by decide)
  have F1_depth : Fld Z h1 b1 "java/lang/Throwable" "depth" "I" (.int (0 : Int32)) := D1 (Or.inl (hw _ (List.mem_of_getElem? (i := 215) rfl))) (ty := .int) (by decide)
  have F1_reported : Fld Z h1 b1 "com/example/titelfeld/titelfeld/command/CommandFailure" "reported" "Z" (.int (0 : Int32)) := D1 (Or.inr (hw _ (List.mem_of_getElem? (i := 219) rfl))) (ty := .boolean) (by decide)
  refine own_stW (g' := (mkF m 3 #[.val (.ref x), .val (.ref y)] [(.ref b1)])) st1 ?_
  refine own_stW (g' := (mkF m 4 #[.val (.ref x), .val (.ref y)] [(.ref b1), (.ref b1)])) (fun _ q => XS.dup X1.here hx rfl (hb hby own_d28_3) rfl rfl (q)) ?_
  obtain ⟨T3, h3, X3, e3, E3, A3, D3, U3, st3⟩ := newO X1 hx w2.2.1 w2.2.2.1 (hw _ (List.mem_of_getElem? (i := 36) rfl)) (hw _ (List.mem_of_getElem? (i := 37) rfl)) (hw _ (List.mem_of_getElem? (i := 38) rfl)) e1 (g := (mkF m 4 #[.val (.ref x), .val (.ref y)] [(.ref b1), (.ref b1)])) rfl (hb hby own_d28_4) (by decide) (by decide)
  obtain ⟨b3, g3⟩ : ∃ z, z = h1.size := ⟨_, rfl⟩
  rw [← g3] at A3 D3 U3 st3
  have w4 := w2.ext E3
  have F3_value : Fld Z h3 b3 "java/lang/AbstractStringBuilder" "value" "[B" .null := D3 (Or.inl (hw _ (List.mem_of_getElem? (i := 51) rfl))) (ty := (.array .byte)) (by decide)
  have F3_coder : Fld Z h3 b3 "java/lang/AbstractStringBuilder" "coder" "B" (.int (0 : Int32)) := D3 (Or.inl (hw _ (List.mem_of_getElem? (i := 53) rfl))) (ty := .byte) (by decide)
  have F3_count : Fld Z h3 b3 "java/lang/AbstractStringBuilder" "count" "I" (.int (0 : Int32)) := D3 (Or.inl (hw _ (List.mem_of_getElem? (i := 78) rfl))) (ty := .int) (by decide)
  refine own_stW (g' := (mkF m 7 #[.val (.ref x), .val (.ref y)] [(.ref b3), (.ref b1), (.ref b1)])) st3 ?_
  refine own_stW (g' := (mkF m 8 #[.val (.ref x), .val (.ref y)] [(.ref b3), (.ref b3), (.ref b1), (.ref b1)])) (fun _ q => XS.dup X3.here hx rfl (hb hby own_d28_7) rfl rfl (q)) ?_
  have K5 : own_Bk l ({ frames := 6, cells := 11, slots := 3103, locals := 96 } : Room) p e below (s.setVm s.vm) #[(.ref x), (.ref y)] (⟨"java/lang/StringBuilder", "<init>", "()V"⟩ : MethodName) 3 h3 #[(.ref b3)] 1 16 (own_Q_sinit Z b3 n0 z h3) := backOf (s := (s.setVm s.vm)) (R := ({ frames := 6, cells := 11, slots := 3103, locals := 96 } : Room)) (W := 3) (Q := (own_Q_sinit Z b3 n0 z h3)) (rm := ({ frames := 2, cells := 1, slots := 16, locals := 25 } : Room)) (own_rm_sinit l Z a0 hw [] b3 n0 z h3 A3 F3_value F3_coder F3_count (Nat.le_trans Z0 (Nat.le_trans E1.1 E3.1)) (Nat.le_trans (Nat.le_trans Z0 E1.1) (Nat.le_of_eq g3.symm)) ((X00.ext E1).ext E3) O hz) w4.2.1 (hw _ (List.mem_of_getElem? (i := 41) rfl)) (hw _ (List.mem_of_getElem? (i := 38) rfl)) (by decide) (by decide)
  obtain ⟨_, L6, T6, X6, ⟨rfl, N6q, K6, E6, b6, kb6, g6, F6, Cd6, Ct6, V6⟩, st6⟩ := own_cI X3 hx w4.2.1 rfl w4.2.2.1 (hw _ (List.mem_of_getElem? (i := 39) rfl)) (hw _ (List.mem_of_getElem? (i := 40) rfl)) (hw _ (List.mem_of_getElem? (i := 41) rfl)) (by decide) e3 (h := h3) (b := b3) (argsL := []) (rest := [(.ref b3), (.ref b1), (.ref b1)]) K5 (pc := 8) (Ls := #[.val (.ref x), .val (.ref y)]) (by rw [hml]; rfl) (lenOf own_pd17 rfl) rfl (Nat.le_of_eq rfl) (hb hby own_d28_8) (by decide) (by decide)
  have N6 := Fr.app N0 N6q
  have w7 := w4.keep K6 (sfS (Safe.exa w4.2.1.alike A3 (by decide) (by decide)) sf0)
  refine own_stW (g' := (mkF m 11 #[.val (.ref x), .val (.ref y)] [(.ref b3), (.ref b1), (.ref b1)])) st6 ?_
  obtain ⟨a8, T8, h8, t8, kb8, X8, e8, E8, w8, sf8, Ea8, Ca8, Fa8, Va8, ns8, st8⟩ := own_ldcC X6 hx w7 hEL (hw _ (List.mem_of_getElem? (i := 54) rfl)) hSA rfl (by decide) (vs := [(.int (99 : Int32)), (.int (97 : Int32)), (.int (110 : Int32)), (.int (110 : Int32)), (.int (111 : Int32)), (.int (116 : Int32)), (.int (32 : Int32)), (.int (114 : Int32)), (.int (101 : Int32)), (.int (97 : Int32)), (.int (100 : Int32)), (.int (32 : Int32))]) (z := (12 : Int32)) (by decide) (by decide) rfl (pc := 11) (Ls := #[.val (.ref x), .val (.ref y)]) (stk := [(.ref b3), (.ref b1), (.ref b1)]) (hb hby own_d28_11) (n := 48) (by decide) (by decide) (by decide) (by decide)
  refine own_stW (g' := (mkF m 13 #[.val (.ref x), .val (.ref y)] [(.ref a8), (.ref b3), (.ref b1), (.ref b1)])) st8 ?_
  have K9 : own_Bk l ({ frames := 6, cells := 11, slots := 3103, locals := 96 } : Room) p e below (s.setVm T8.vm) #[(.ref x), (.ref y)] (⟨"java/lang/StringBuilder", "append", "(Ljava/lang/String;)Ljava/lang/StringBuilder;"⟩ : MethodName) 2 h8 #[(.ref b3), (.ref a8)] 0 0 (own_Q_apF Z b3 b6 kb6 0 16 (List.replicate 16 (.int (0 : Int32))) n0 z a8 t8 kb8 12 [(.int (99 : Int32)), (.int (97 : Int32)), (.int (110 : Int32)), (.int (110 : Int32)), (.int (111 : Int32)), (.int (116 : Int32)), (.int (32 : Int32)), (.int (114 : Int32)), (.int (101 : Int32)), (.int (97 : Int32)), (.int (100 : Int32)), (.int (32 : Int32))] h8) := backOf (s := (s.setVm T8.vm)) (R := ({ frames := 6, cells := 11, slots := 3103, locals := 96 } : Room)) (W := 2) (Q := (own_Q_apF Z b3 b6 kb6 0 16 (List.replicate 16 (.int (0 : Int32))) n0 z a8 t8 kb8 12 [(.int (99 : Int32)), (.int (97 : Int32)), (.int (110 : Int32)), (.int (110 : Int32)), (.int (111 : Int32)), (.int (116 : Int32)), (.int (32 : Int32)), (.int (114 : Int32)), (.int (101 : Int32)), (.int (97 : Int32)), (.int (100 : Int32)), (.int (32 : Int32))] h8)) (rm := ({ frames := 4, cells := 0, slots := 0, locals := 64 } : Room)) (own_rm_apF l Z a0 hw [] b3 b6 kb6 0 16 (List.replicate 16 (.int (0 : Int32))) n0 z a8 t8 kb8 12 [(.int (99 : Int32)), (.int (97 : Int32)), (.int (110 : Int32)), (.int (110 : Int32)), (.int (111 : Int32)), (.int (116 : Int32)), (.int (32 : Int32)), (.int (114 : Int32)), (.int (101 : Int32)), (.int (97 : Int32)), (.int (100 : Int32)), (.int (32 : Int32))] h8 (E6.ext E8) (F6.ext E8) (Cd6.ext E8) (Ct6.ext E8) (V6.ext E8) (List.length_replicate) (by omega) Ea8 Fa8 Ca8 Va8 rfl O hz ((((X00.ext E1).ext E3).keep K6 (allS (Nat.le_trans (Nat.le_trans Z0 E1.1) (Nat.le_of_eq g3.symm)) all0)).ext E8) (Nat.le_trans Z0 (Nat.le_trans (Nat.le_trans (Nat.le_trans E1.1 E3.1) K6.1) E8.1)) (Nat.le_trans (Nat.le_trans Z0 E1.1) (Nat.le_of_eq g3.symm)) (Nat.le_trans (Nat.le_trans Z0 (Nat.le_trans E1.1 E3.1)) g6) (by omega) (by omega)) w8.2.1 (hw _ (List.mem_of_getElem? (i := 61) rfl)) (hw _ (List.mem_of_getElem? (i := 38) rfl)) (by decide) (by decide)
  obtain ⟨_, L10, T10, X10, ⟨rfl, N10q, K10, E10, F10, Cd10, Ct10, us10, V10, l10, ap10⟩, st10⟩ := own_cV X8 hx w8.2.1 w8.2.2.1 (hw _ (List.mem_of_getElem? (i := 57) rfl)) (hw _ (List.mem_of_getElem? (i := 58) rfl)) (notFace_of_selects (args := #[]) (mvT w8.2.1 (hw _ (List.mem_of_getElem? (i := 60) rfl)))) (hw _ (List.mem_of_getElem? (i := 60) rfl)) (hw _ (List.mem_of_getElem? (i := 59) rfl)) (by decide) e8 (h := h8) (b := b3) (E6.ext E8) (argsL := [(.ref a8)]) (rest := [(.ref b1), (.ref b1)]) K9 (pc := 13) (Ls := #[.val (.ref x), .val (.ref y)]) (by rw [hml]; rfl) (lenOf own_pd18 rfl) rfl (Nat.le_of_eq rfl) (hb hby own_d28_13) (by decide) (by decide)
  have N10 := Fr.app N6 N10q
  have w11 := w8.keep K10 (sfS (Safe.exa w8.2.1.alike (E6.ext E8) (by decide) (by decide)) (sfS (sf8 _ V6.lt (Safe.keep K6 (sfS (Safe.ext E3 w2.held (Safe.new (Nat.le_of_eq g3.symm))) sf0) w4.held (Safe.new g6))) sf0))
  refine own_stW (g' := (mkF m 16 #[.val (.ref x), .val (.ref y)] [(.ref b3), (.ref b1), (.ref b1)])) st10 ?_
  refine own_stW (g' := (mkF m 17 #[.val (.ref x), .val (.ref y)] [(.ref x), (.ref b3), (.ref b1), (.ref b1)])) (fun _ q => XS.aloadN X10.here hx rfl (hb hby own_d28_16) rfl rfl (q)) ?_
  have K12 : own_Bk l ({ frames := 6, cells := 11, slots := 3103, locals := 96 } : Room) p e below (s.setVm T8.vm) #[(.ref x), (.ref y)] (⟨"java/lang/StringBuilder", "append", "(Ljava/lang/String;)Ljava/lang/StringBuilder;"⟩ : MethodName) 2 T10.heap #[(.ref b3), (.ref x)] 0 0 (own_Q_apF Z b3 b6 kb6 (0 + 12) 16 us10 n0 z x t kt 2 us T10.heap) := backOf (s := (s.setVm T8.vm)) (R := ({ frames := 6, cells := 11, slots := 3103, locals := 96 } : Room)) (W := 2) (Q := (own_Q_apF Z b3 b6 kb6 (0 + 12) 16 us10 n0 z x t kt 2 us T10.heap)) (rm := ({ frames := 4, cells := 0, slots := 0, locals := 64 } : Room)) (own_rm_apF l Z a0 hw [] b3 b6 kb6 (0 + 12) 16 us10 n0 z x t kt 2 us T10.heap E10 F10 Cd10 Ct10 V10 l10 (by omega) (((((EX.ext E1).ext E3).keep K6).ext E8).keep K10) (((((FX.ext E1).ext E3).keep K6 (ninS (Nat.ne_of_lt (Nat.lt_of_lt_of_eq (Nat.lt_of_lt_of_le EX.lt E1.1) g3.symm)) nin0)).ext E8).keep K10 (ninS (Nat.ne_of_lt (Nat.lt_of_lt_of_eq (Nat.lt_of_lt_of_le EX.lt E1.1) g3.symm)) (ninS (Nat.ne_of_lt (Nat.lt_of_lt_of_le (Nat.lt_of_lt_of_le EX.lt (Nat.le_trans E1.1 E3.1)) g6)) nin0))) (((((CX.ext E1).ext E3).keep K6 (ninS (Nat.ne_of_lt (Nat.lt_of_lt_of_eq (Nat.lt_of_lt_of_le EX.lt E1.1) g3.symm)) nin0)).ext E8).keep K10 (ninS (Nat.ne_of_lt (Nat.lt_of_lt_of_eq (Nat.lt_of_lt_of_le EX.lt E1.1) g3.symm)) (ninS (Nat.ne_of_lt (Nat.lt_of_lt_of_le (Nat.lt_of_lt_of_le EX.lt (Nat.le_trans E1.1 E3.1)) g6)) nin0))) (((((VX.ext E1).ext E3).keep K6 (ninS (Nat.ne_of_lt (Nat.lt_of_lt_of_eq (Nat.lt_of_lt_of_le VX.lt E1.1) g3.symm)) nin0)).ext E8).keep K10 (ninS (Nat.ne_of_lt (Nat.lt_of_lt_of_eq (Nat.lt_of_lt_of_le VX.lt E1.1) g3.symm)) (ninS (Nat.ne_of_lt (Nat.lt_of_lt_of_le (Nat.lt_of_lt_of_le VX.lt (Nat.le_trans E1.1 E3.1)) g6)) nin0))) lu O hz (((((X00.ext E1).ext E3).keep K6 (allS (Nat.le_trans (Nat.le_trans Z0 E1.1) (Nat.le_of_eq g3.symm)) all0)).ext E8).keep K10 (allS (Nat.le_trans (Nat.le_trans Z0 E1.1) (Nat.le_of_eq g3.symm)) (allS (Nat.le_trans (Nat.le_trans Z0 (Nat.le_trans E1.1 E3.1)) g6) all0))) (Nat.le_trans Z0 (Nat.le_trans (Nat.le_trans (Nat.le_trans (Nat.le_trans E1.1 E3.1) K6.1) E8.1) K10.1)) (Nat.le_trans (Nat.le_trans Z0 E1.1) (Nat.le_of_eq g3.symm)) (Nat.le_trans (Nat.le_trans Z0 (Nat.le_trans E1.1 E3.1)) g6) (by omega) (by omega)) w11.2.1 (hw _ (List.mem_of_getElem? (i := 61) rfl)) (hw _ (List.mem_of_getElem? (i := 38) rfl)) (by decide) (by decide)
  obtain ⟨_, L13, T13, X13, ⟨rfl, N13q, K13, E13, F13, Cd13, Ct13, us13, V13, l13, ap13⟩, st13⟩ := own_cV X10 hx w11.2.1 w11.2.2.1 (hw _ (List.mem_of_getElem? (i := 57) rfl)) (hw _ (List.mem_of_getElem? (i := 58) rfl)) (notFace_of_selects (args := #[]) (mvT w11.2.1 (hw _ (List.mem_of_getElem? (i := 60) rfl)))) (hw _ (List.mem_of_getElem? (i := 60) rfl)) (hw _ (List.mem_of_getElem? (i := 59) rfl)) (by decide) rfl (h := T10.heap) (b := b3) E10 (argsL := [(.ref x)]) (rest := [(.ref b1), (.ref b1)]) K12 (pc := 17) (Ls := #[.val (.ref x), .val (.ref y)]) (by rw [hml]; rfl) (lenOf own_pd18 rfl) rfl (Nat.le_of_eq rfl) (hb hby own_d28_17) (by decide) (by decide)
  have N13 := Fr.app N10 N13q
  have w14 := w11.keep K13 (sfS (Safe.exa w11.2.1.alike E10 (by decide) (by decide)) (sfS (Safe.keep K10 (sfS (sf8 _ (Nat.lt_of_lt_of_le A3.lt K6.1) (Safe.keep K6 (sfS (Safe.ext E3 w2.held (Safe.new (Nat.le_of_eq g3.symm))) sf0) w4.held (Safe.ext E3 w2.held (Safe.new (Nat.le_of_eq g3.symm))))) (sfS (sf8 _ V6.lt (Safe.keep K6 (sfS (Safe.ext E3 w2.held (Safe.new (Nat.le_of_eq g3.symm))) sf0) w4.held (Safe.new g6))) sf0)) w8.held (sf8 _ V6.lt (Safe.keep K6 (sfS (Safe.ext E3 w2.held (Safe.new (Nat.le_of_eq g3.symm))) sf0) w4.held (Safe.new g6)))) sf0))
  refine own_stW (g' := (mkF m 20 #[.val (.ref x), .val (.ref y)] [(.ref b3), (.ref b1), (.ref b1)])) st13 ?_
  obtain ⟨a15, T15, h15, t15, kb15, X15, e15, E15, w15, sf15, Ea15, Ca15, Fa15, Va15, ns15, st15⟩ := own_ldcC X13 hx w14 hEL (hw _ (List.mem_of_getElem? (i := 104) rfl)) hSA rfl (by decide) (vs := [(.int (58 : Int32)), (.int (32 : Int32))]) (z := (2 : Int32)) (by decide) (by decide) rfl (pc := 20) (Ls := #[.val (.ref x), .val (.ref y)]) (stk := [(.ref b3), (.ref b1), (.ref b1)]) (hb hby own_d28_20) (n := 8) (by decide) (by decide) (by decide) (by decide)
  refine own_stW (g' := (mkF m 22 #[.val (.ref x), .val (.ref y)] [(.ref a15), (.ref b3), (.ref b1), (.ref b1)])) st15 ?_
  have K16 : own_Bk l ({ frames := 6, cells := 11, slots := 3103, locals := 96 } : Room) p e below (s.setVm T15.vm) #[(.ref x), (.ref y)] (⟨"java/lang/StringBuilder", "append", "(Ljava/lang/String;)Ljava/lang/StringBuilder;"⟩ : MethodName) 2 h15 #[(.ref b3), (.ref a15)] 0 0 (own_Q_apF Z b3 b6 kb6 ((0 + 12) + 2) 16 us13 n0 z a15 t15 kb15 2 [(.int (58 : Int32)), (.int (32 : Int32))] h15) := backOf (s := (s.setVm T15.vm)) (R := ({ frames := 6, cells := 11, slots := 3103, locals := 96 } : Room)) (W := 2) (Q := (own_Q_apF Z b3 b6 kb6 ((0 + 12) + 2) 16 us13 n0 z a15 t15 kb15 2 [(.int (58 : Int32)), (.int (32 : Int32))] h15)) (rm := ({ frames := 4, cells := 0, slots := 0, locals := 64 } : Room)) (own_rm_apF l Z a0 hw [] b3 b6 kb6 ((0 + 12) + 2) 16 us13 n0 z a15 t15 kb15 2 [(.int (58 : Int32)), (.int (32 : Int32))] h15 (E13.ext E15) (F13.ext E15) (Cd13.ext E15) (Ct13.ext E15) (V13.ext E15) l13 (by omega) Ea15 Fa15 Ca15 Va15 rfl O hz (((((((X00.ext E1).ext E3).keep K6 (allS (Nat.le_trans (Nat.le_trans Z0 E1.1) (Nat.le_of_eq g3.symm)) all0)).ext E8).keep K10 (allS (Nat.le_trans (Nat.le_trans Z0 E1.1) (Nat.le_of_eq g3.symm)) (allS (Nat.le_trans (Nat.le_trans Z0 (Nat.le_trans E1.1 E3.1)) g6) all0))).keep K13 (allS (Nat.le_trans (Nat.le_trans Z0 E1.1) (Nat.le_of_eq g3.symm)) (allS (Nat.le_trans (Nat.le_trans Z0 (Nat.le_trans E1.1 E3.1)) g6) all0))).ext E15) (Nat.le_trans Z0 (Nat.le_trans (Nat.le_trans (Nat.le_trans (Nat.le_trans (Nat.le_trans (Nat.le_trans E1.1 E3.1) K6.1) E8.1) K10.1) K13.1) E15.1)) (Nat.le_trans (Nat.le_trans Z0 E1.1) (Nat.le_of_eq g3.symm)) (Nat.le_trans (Nat.le_trans Z0 (Nat.le_trans E1.1 E3.1)) g6) (by omega) (by omega)) w15.2.1 (hw _ (List.mem_of_getElem? (i := 61) rfl)) (hw _ (List.mem_of_getElem? (i := 38) rfl)) (by decide) (by decide)
  obtain ⟨_, L17, T17, X17, ⟨rfl, N17q, K17, E17, F17, Cd17, Ct17, us17, V17, l17, ap17⟩, st17⟩ := own_cV X15 hx w15.2.1 w15.2.2.1 (hw _ (List.mem_of_getElem? (i := 57) rfl)) (hw _ (List.mem_of_getElem? (i := 58) rfl)) (notFace_of_selects (args := #[]) (mvT w15.2.1 (hw _ (List.mem_of_getElem? (i := 60) rfl)))) (hw _ (List.mem_of_getElem? (i := 60) rfl)) (hw _ (List.mem_of_getElem? (i := 59) rfl)) (by decide) e15 (h := h15) (b := b3) (E13.ext E15) (argsL := [(.ref a15)]) (rest := [(.ref b1), (.ref b1)]) K16 (pc := 22) (Ls := #[.val (.ref x), .val (.ref y)]) (by rw [hml]; rfl) (lenOf own_pd18 rfl) rfl (Nat.le_of_eq rfl) (hb hby own_d28_22) (by decide) (by decide)
  have N17 := Fr.app N13 N17q
  have w18 := w15.keep K17 (sfS (Safe.exa w15.2.1.alike (E13.ext E15) (by decide) (by decide)) (sfS (sf15 _ (Nat.lt_of_lt_of_le V6.lt (Nat.le_trans (Nat.le_trans E8.1 K10.1) K13.1)) (Safe.keep K13 (sfS (Safe.keep K10 (sfS (sf8 _ (Nat.lt_of_lt_of_le A3.lt K6.1) (Safe.keep K6 (sfS (Safe.ext E3 w2.held (Safe.new (Nat.le_of_eq g3.symm))) sf0) w4.held (Safe.ext E3 w2.held (Safe.new (Nat.le_of_eq g3.symm))))) (sfS (sf8 _ V6.lt (Safe.keep K6 (sfS (Safe.ext E3 w2.held (Safe.new (Nat.le_of_eq g3.symm))) sf0) w4.held (Safe.new g6))) sf0)) w8.held (sf8 _ (Nat.lt_of_lt_of_le A3.lt K6.1) (Safe.keep K6 (sfS (Safe.ext E3 w2.held (Safe.new (Nat.le_of_eq g3.symm))) sf0) w4.held (Safe.ext E3 w2.held (Safe.new (Nat.le_of_eq g3.symm)))))) (sfS (Safe.keep K10 (sfS (sf8 _ (Nat.lt_of_lt_of_le A3.lt K6.1) (Safe.keep K6 (sfS (Safe.ext E3 w2.held (Safe.new (Nat.le_of_eq g3.symm))) sf0) w4.held (Safe.ext E3 w2.held (Safe.new (Nat.le_of_eq g3.symm))))) (sfS (sf8 _ V6.lt (Safe.keep K6 (sfS (Safe.ext E3 w2.held (Safe.new (Nat.le_of_eq g3.symm))) sf0) w4.held (Safe.new g6))) sf0)) w8.held (sf8 _ V6.lt (Safe.keep K6 (sfS (Safe.ext E3 w2.held (Safe.new (Nat.le_of_eq g3.symm))) sf0) w4.held (Safe.new g6)))) sf0)) w11.held (Safe.keep K10 (sfS (sf8 _ (Nat.lt_of_lt_of_le A3.lt K6.1) (Safe.keep K6 (sfS (Safe.ext E3 w2.held (Safe.new (Nat.le_of_eq g3.symm))) sf0) w4.held (Safe.ext E3 w2.held (Safe.new (Nat.le_of_eq g3.symm))))) (sfS (sf8 _ V6.lt (Safe.keep K6 (sfS (Safe.ext E3 w2.held (Safe.new (Nat.le_of_eq g3.symm))) sf0) w4.held (Safe.new g6))) sf0)) w8.held (sf8 _ V6.lt (Safe.keep K6 (sfS (Safe.ext E3 w2.held (Safe.new (Nat.le_of_eq g3.symm))) sf0) w4.held (Safe.new g6)))))) sf0))
  refine own_stW (g' := (mkF m 25 #[.val (.ref x), .val (.ref y)] [(.ref b3), (.ref b1), (.ref b1)])) st17 ?_
  refine own_stW (g' := (mkF m 26 #[.val (.ref x), .val (.ref y)] [(.ref y), (.ref b3), (.ref b1), (.ref b1)])) (fun _ q => XS.aloadN X17.here hx rfl (hb hby own_d28_25) rfl rfl (q)) ?_
  have K19 : own_Bk l ({ frames := 6, cells := 11, slots := 3103, locals := 96 } : Room) p e below (s.setVm T15.vm) #[(.ref x), (.ref y)] (⟨"java/lang/StringBuilder", "append", "(Ljava/lang/String;)Ljava/lang/StringBuilder;"⟩ : MethodName) 2 T17.heap #[(.ref b3), (.ref y)] 1 128 (own_Q_apG Z b3 b6 kb6 (((0 + 12) + 2) + 2) 16 us17 n0 z y u ku 2 wv T17.heap) := backOf (s := (s.setVm T15.vm)) (R := ({ frames := 6, cells := 11, slots := 3103, locals := 96 } : Room)) (W := 2) (Q := (own_Q_apG Z b3 b6 kb6 (((0 + 12) + 2) + 2) 16 us17 n0 z y u ku 2 wv T17.heap)) (rm := ({ frames := 5, cells := 1, slots := 128, locals := 76 } : Room)) (own_rm_apG l Z a0 hw [] b3 b6 kb6 (((0 + 12) + 2) + 2) 16 us17 n0 z y u ku 2 wv T17.heap E17 F17 Cd17 Ct17 V17 l17 (by omega) ((((((((EX2.ext E1).ext E3).keep K6).ext E8).keep K10).keep K13).ext E15).keep K17) ((((((((FX2.ext E1).ext E3).keep K6 (ninS (Nat.ne_of_lt (Nat.lt_of_lt_of_eq (Nat.lt_of_lt_of_le EX2.lt E1.1) g3.symm)) nin0)).ext E8).keep K10 (ninS (Nat.ne_of_lt (Nat.lt_of_lt_of_eq (Nat.lt_of_lt_of_le EX2.lt E1.1) g3.symm)) (ninS (Nat.ne_of_lt (Nat.lt_of_lt_of_le (Nat.lt_of_lt_of_le EX2.lt (Nat.le_trans E1.1 E3.1)) g6)) nin0))).keep K13 (ninS (Nat.ne_of_lt (Nat.lt_of_lt_of_eq (Nat.lt_of_lt_of_le EX2.lt E1.1) g3.symm)) (ninS (Nat.ne_of_lt (Nat.lt_of_lt_of_le (Nat.lt_of_lt_of_le EX2.lt (Nat.le_trans E1.1 E3.1)) g6)) nin0))).ext E15).keep K17 (ninS (Nat.ne_of_lt (Nat.lt_of_lt_of_eq (Nat.lt_of_lt_of_le EX2.lt E1.1) g3.symm)) (ninS (Nat.ne_of_lt (Nat.lt_of_lt_of_le (Nat.lt_of_lt_of_le EX2.lt (Nat.le_trans E1.1 E3.1)) g6)) nin0))) ((((((((CX2.ext E1).ext E3).keep K6 (ninS (Nat.ne_of_lt (Nat.lt_of_lt_of_eq (Nat.lt_of_lt_of_le EX2.lt E1.1) g3.symm)) nin0)).ext E8).keep K10 (ninS (Nat.ne_of_lt (Nat.lt_of_lt_of_eq (Nat.lt_of_lt_of_le EX2.lt E1.1) g3.symm)) (ninS (Nat.ne_of_lt (Nat.lt_of_lt_of_le (Nat.lt_of_lt_of_le EX2.lt (Nat.le_trans E1.1 E3.1)) g6)) nin0))).keep K13 (ninS (Nat.ne_of_lt (Nat.lt_of_lt_of_eq (Nat.lt_of_lt_of_le EX2.lt E1.1) g3.symm)) (ninS (Nat.ne_of_lt (Nat.lt_of_lt_of_le (Nat.lt_of_lt_of_le EX2.lt (Nat.le_trans E1.1 E3.1)) g6)) nin0))).ext E15).keep K17 (ninS (Nat.ne_of_lt (Nat.lt_of_lt_of_eq (Nat.lt_of_lt_of_le EX2.lt E1.1) g3.symm)) (ninS (Nat.ne_of_lt (Nat.lt_of_lt_of_le (Nat.lt_of_lt_of_le EX2.lt (Nat.le_trans E1.1 E3.1)) g6)) nin0))) ((((((((VX2.ext E1).ext E3).keep K6 (ninS (Nat.ne_of_lt (Nat.lt_of_lt_of_eq (Nat.lt_of_lt_of_le VX2.lt E1.1) g3.symm)) nin0)).ext E8).keep K10 (ninS (Nat.ne_of_lt (Nat.lt_of_lt_of_eq (Nat.lt_of_lt_of_le VX2.lt E1.1) g3.symm)) (ninS (Nat.ne_of_lt (Nat.lt_of_lt_of_le (Nat.lt_of_lt_of_le VX2.lt (Nat.le_trans E1.1 E3.1)) g6)) nin0))).keep K13 (ninS (Nat.ne_of_lt (Nat.lt_of_lt_of_eq (Nat.lt_of_lt_of_le VX2.lt E1.1) g3.symm)) (ninS (Nat.ne_of_lt (Nat.lt_of_lt_of_le (Nat.lt_of_lt_of_le VX2.lt (Nat.le_trans E1.1 E3.1)) g6)) nin0))).ext E15).keep K17 (ninS (Nat.ne_of_lt (Nat.lt_of_lt_of_eq (Nat.lt_of_lt_of_le VX2.lt E1.1) g3.symm)) (ninS (Nat.ne_of_lt (Nat.lt_of_lt_of_le (Nat.lt_of_lt_of_le VX2.lt (Nat.le_trans E1.1 E3.1)) g6)) nin0))) lu2 O hz ((((((((X00.ext E1).ext E3).keep K6 (allS (Nat.le_trans (Nat.le_trans Z0 E1.1) (Nat.le_of_eq g3.symm)) all0)).ext E8).keep K10 (allS (Nat.le_trans (Nat.le_trans Z0 E1.1) (Nat.le_of_eq g3.symm)) (allS (Nat.le_trans (Nat.le_trans Z0 (Nat.le_trans E1.1 E3.1)) g6) all0))).keep K13 (allS (Nat.le_trans (Nat.le_trans Z0 E1.1) (Nat.le_of_eq g3.symm)) (allS (Nat.le_trans (Nat.le_trans Z0 (Nat.le_trans E1.1 E3.1)) g6) all0))).ext E15).keep K17 (allS (Nat.le_trans (Nat.le_trans Z0 E1.1) (Nat.le_of_eq g3.symm)) (allS (Nat.le_trans (Nat.le_trans Z0 (Nat.le_trans E1.1 E3.1)) g6) all0))) (Nat.le_trans Z0 (Nat.le_trans (Nat.le_trans (Nat.le_trans (Nat.le_trans (Nat.le_trans (Nat.le_trans (Nat.le_trans E1.1 E3.1) K6.1) E8.1) K10.1) K13.1) E15.1) K17.1)) (Nat.le_trans (Nat.le_trans Z0 E1.1) (Nat.le_of_eq g3.symm)) (by omega) (by omega) (by omega) (by omega)) w18.2.1 (hw _ (List.mem_of_getElem? (i := 61) rfl)) (hw _ (List.mem_of_getElem? (i := 38) rfl)) (by decide) (by decide)
  obtain ⟨_, L20, T20, X20, ⟨rfl, N20q, K20, E20, b20, kb20, us20, g20, F20, Cd20, Ct20, V20, l20, ap20⟩, st20⟩ := own_cV X17 hx w18.2.1 w18.2.2.1 (hw _ (List.mem_of_getElem? (i := 57) rfl)) (hw _ (List.mem_of_getElem? (i := 58) rfl)) (notFace_of_selects (args := #[]) (mvT w18.2.1 (hw _ (List.mem_of_getElem? (i := 60) rfl)))) (hw _ (List.mem_of_getElem? (i := 60) rfl)) (hw _ (List.mem_of_getElem? (i := 59) rfl)) (by decide) rfl (h := T17.heap) (b := b3) E17 (argsL := [(.ref y)]) (rest := [(.ref b1), (.ref b1)]) K19 (pc := 26) (Ls := #[.val (.ref x), .val (.ref y)]) (by rw [hml]; rfl) (lenOf own_pd18 rfl) rfl (Nat.le_of_eq rfl) (hb hby own_d28_26) (by decide) (by decide)
  have N20 := Fr.app N17 N20q
  have w21 := w18.keep K20 (sfS (Safe.exa w18.2.1.alike E17 (by decide) (by decide)) sf0)
  refine own_stW (g' := (mkF m 29 #[.val (.ref x), .val (.ref y)] [(.ref b3), (.ref b1), (.ref b1)])) st20 ?_
  have K22 : own_Bk l ({ frames := 6, cells := 11, slots := 3103, locals := 96 } : Room) p e below (s.setVm T15.vm) #[(.ref x), (.ref y)] (⟨"java/lang/StringBuilder", "toString", "()Ljava/lang/String;"⟩ : MethodName) 2 T20.heap #[(.ref b3)] 2 132 (own_Q_tostr Z b3 b20 kb20 ((((0 + 12) + 2) + 2) + 2) (16 + max ((((0 + 12) + 2) + 2) + 2 - 16) (16 + 2)) us20 n0 z T20.heap) := backOf (s := (s.setVm T15.vm)) (R := ({ frames := 6, cells := 11, slots := 3103, locals := 96 } : Room)) (W := 2) (Q := (own_Q_tostr Z b3 b20 kb20 ((((0 + 12) + 2) + 2) + 2) (16 + max ((((0 + 12) + 2) + 2) + 2 - 16) (16 + 2)) us20 n0 z T20.heap)) (rm := ({ frames := 5, cells := 2, slots := 132, locals := 82 } : Room)) (own_rm_tostr l Z a0 hw [] b3 b20 kb20 ((((0 + 12) + 2) + 2) + 2) (16 + max ((((0 + 12) + 2) + 2) + 2 - 16) (16 + 2)) us20 n0 z T20.heap E20 F20 Cd20 Ct20 V20 l20 (by omega) (Nat.le_trans Z0 (Nat.le_trans (Nat.le_trans (Nat.le_trans (Nat.le_trans (Nat.le_trans (Nat.le_trans (Nat.le_trans (Nat.le_trans E1.1 E3.1) K6.1) E8.1) K10.1) K13.1) E15.1) K17.1) K20.1)) (((((((((X00.ext E1).ext E3).keep K6 (allS (Nat.le_trans (Nat.le_trans Z0 E1.1) (Nat.le_of_eq g3.symm)) all0)).ext E8).keep K10 (allS (Nat.le_trans (Nat.le_trans Z0 E1.1) (Nat.le_of_eq g3.symm)) (allS (Nat.le_trans (Nat.le_trans Z0 (Nat.le_trans E1.1 E3.1)) g6) all0))).keep K13 (allS (Nat.le_trans (Nat.le_trans Z0 E1.1) (Nat.le_of_eq g3.symm)) (allS (Nat.le_trans (Nat.le_trans Z0 (Nat.le_trans E1.1 E3.1)) g6) all0))).ext E15).keep K17 (allS (Nat.le_trans (Nat.le_trans Z0 E1.1) (Nat.le_of_eq g3.symm)) (allS (Nat.le_trans (Nat.le_trans Z0 (Nat.le_trans E1.1 E3.1)) g6) all0))).keep K20 (allS (Nat.le_trans (Nat.le_trans Z0 E1.1) (Nat.le_of_eq g3.symm)) all0)) O hz (by omega) (by omega) (by omega)) w21.2.1 (hw _ (List.mem_of_getElem? (i := 132) rfl)) (hw _ (List.mem_of_getElem? (i := 38) rfl)) (by decide) (by decide)
  obtain ⟨_, L23, T23, X23, ⟨N23q, K23, x23, t23, kt23, rfl, gx23, gt23, E23, F23, Cd23, V23⟩, st23⟩ := own_cV X20 hx w21.2.1 w21.2.2.1 (hw _ (List.mem_of_getElem? (i := 128) rfl)) (hw _ (List.mem_of_getElem? (i := 129) rfl)) (notFace_of_selects (args := #[]) (mvT w21.2.1 (hw _ (List.mem_of_getElem? (i := 131) rfl)))) (hw _ (List.mem_of_getElem? (i := 131) rfl)) (hw _ (List.mem_of_getElem? (i := 130) rfl)) (by decide) rfl (h := T20.heap) (b := b3) E20 (argsL := []) (rest := [(.ref b1), (.ref b1)]) K22 (pc := 29) (Ls := #[.val (.ref x), .val (.ref y)]) (by rw [hml]; rfl) (lenOf own_pd19 rfl) rfl (Nat.le_of_eq rfl) (hb hby own_d28_29) (by decide) (by decide)
  have N23 := Fr.app N20 N23q
  have w24 := w21.keep K23 sf0
  refine own_stW (g' := (mkF m 32 #[.val (.ref x), .val (.ref y)] [(.ref x23), (.ref b1), (.ref b1)])) st23 ?_
  refine own_stW (g' := (mkF m 33 #[.val (.ref x), .val (.ref y)] [(.int (1 : Int32)), (.ref x23), (.ref b1), (.ref b1)])) (fun _ q => XS.iconst X23.here hx rfl (hb hby own_d28_32) (q)) ?_
  have K25 : own_Bk l ({ frames := 6, cells := 11, slots := 3103, locals := 96 } : Room) p e below (s.setVm T15.vm) #[(.ref x), (.ref y)] (⟨"com/example/titelfeld/titelfeld/command/CommandFailure", "<init>", "(Ljava/lang/String;Z)V"⟩ : MethodName) 1 T23.heap #[(.ref b1), (.ref x23), (.int (1 : Int32))] 1 2752 (own_Q_cfi Z b1 x23 n0 T23.heap) := backOfKL (s := (s.setVm T15.vm)) (R := ({ frames := 6, cells := 11, slots := 3103, locals := 96 } : Room)) (W := 1) (Q := (own_Q_cfi Z b1 x23 n0 T23.heap)) (rm := ({ frames := 5, cells := 1, slots := 2752, locals := 68 } : Room)) (own_rm_cfi l Z a0 hw [] b1 x23 n0 T23.heap (((((((((A1.ext E3).keep K6).ext E8).keep K10).keep K13).ext E15).keep K17).keep K20).keep K23) (Unt.keep K23 nin0 (Unt.keep K20 (ninS (Nat.ne_of_lt (Nat.lt_of_lt_of_eq A1.lt g3.symm)) nin0) (Unt.keep K17 (ninS (Nat.ne_of_lt (Nat.lt_of_lt_of_eq A1.lt g3.symm)) (ninS (Nat.ne_of_lt (Nat.lt_of_lt_of_le (Nat.lt_of_lt_of_le A1.lt E3.1) g6)) nin0)) (Unt.ext E15 (Unt.keep K13 (ninS (Nat.ne_of_lt (Nat.lt_of_lt_of_eq A1.lt g3.symm)) (ninS (Nat.ne_of_lt (Nat.lt_of_lt_of_le (Nat.lt_of_lt_of_le A1.lt E3.1) g6)) nin0)) (Unt.keep K10 (ninS (Nat.ne_of_lt (Nat.lt_of_lt_of_eq A1.lt g3.symm)) (ninS (Nat.ne_of_lt (Nat.lt_of_lt_of_le (Nat.lt_of_lt_of_le A1.lt E3.1) g6)) nin0)) (Unt.ext E8 (Unt.keep K6 (ninS (Nat.ne_of_lt (Nat.lt_of_lt_of_eq A1.lt g3.symm)) nin0) (Unt.ext E3 U1))))))))) (((((((((F1_cause.ext E3).keep K6 (ninS (Nat.ne_of_lt (Nat.lt_of_lt_of_eq A1.lt g3.symm)) nin0)).ext E8).keep K10 (ninS (Nat.ne_of_lt (Nat.lt_of_lt_of_eq A1.lt g3.symm)) (ninS (Nat.ne_of_lt (Nat.lt_of_lt_of_le (Nat.lt_of_lt_of_le A1.lt E3.1) g6)) nin0))).keep K13 (ninS (Nat.ne_of_lt (Nat.lt_of_lt_of_eq A1.lt g3.symm)) (ninS (Nat.ne_of_lt (Nat.lt_of_lt_of_le (Nat.lt_of_lt_of_le A1.lt E3.1) g6)) nin0))).ext E15).keep K17 (ninS (Nat.ne_of_lt (Nat.lt_of_lt_of_eq A1.lt g3.symm)) (ninS (Nat.ne_of_lt (Nat.lt_of_lt_of_le (Nat.lt_of_lt_of_le A1.lt E3.1) g6)) nin0))).keep K20 (ninS (Nat.ne_of_lt (Nat.lt_of_lt_of_eq A1.lt g3.symm)) nin0)).keep K23 nin0) (((((((((F1_stackTrace.ext E3).keep K6 (ninS (Nat.ne_of_lt (Nat.lt_of_lt_of_eq A1.lt g3.symm)) nin0)).ext E8).keep K10 (ninS (Nat.ne_of_lt (Nat.lt_of_lt_of_eq A1.lt g3.symm)) (ninS (Nat.ne_of_lt (Nat.lt_of_lt_of_le (Nat.lt_of_lt_of_le A1.lt E3.1) g6)) nin0))).keep K13 (ninS (Nat.ne_of_lt (Nat.lt_of_lt_of_eq A1.lt g3.symm)) (ninS (Nat.ne_of_lt (Nat.lt_of_lt_of_le (Nat.lt_of_lt_of_le A1.lt E3.1) g6)) nin0))).ext E15).keep K17 (ninS (Nat.ne_of_lt (Nat.lt_of_lt_of_eq A1.lt g3.symm)) (ninS (Nat.ne_of_lt (Nat.lt_of_lt_of_le (Nat.lt_of_lt_of_le A1.lt E3.1) g6)) nin0))).keep K20 (ninS (Nat.ne_of_lt (Nat.lt_of_lt_of_eq A1.lt g3.symm)) nin0)).keep K23 nin0) (((((((((F1_suppressedExceptions.ext E3).keep K6 (ninS (Nat.ne_of_lt (Nat.lt_of_lt_of_eq A1.lt g3.symm)) nin0)).ext E8).keep K10 (ninS (Nat.ne_of_lt (Nat.lt_of_lt_of_eq A1.lt g3.symm)) (ninS (Nat.ne_of_lt (Nat.lt_of_lt_of_le (Nat.lt_of_lt_of_le A1.lt E3.1) g6)) nin0))).keep K13 (ninS (Nat.ne_of_lt (Nat.lt_of_lt_of_eq A1.lt g3.symm)) (ninS (Nat.ne_of_lt (Nat.lt_of_lt_of_le (Nat.lt_of_lt_of_le A1.lt E3.1) g6)) nin0))).ext E15).keep K17 (ninS (Nat.ne_of_lt (Nat.lt_of_lt_of_eq A1.lt g3.symm)) (ninS (Nat.ne_of_lt (Nat.lt_of_lt_of_le (Nat.lt_of_lt_of_le A1.lt E3.1) g6)) nin0))).keep K20 (ninS (Nat.ne_of_lt (Nat.lt_of_lt_of_eq A1.lt g3.symm)) nin0)).keep K23 nin0) (((((((((F1_backtrace.ext E3).keep K6 (ninS (Nat.ne_of_lt (Nat.lt_of_lt_of_eq A1.lt g3.symm)) nin0)).ext E8).keep K10 (ninS (Nat.ne_of_lt (Nat.lt_of_lt_of_eq A1.lt g3.symm)) (ninS (Nat.ne_of_lt (Nat.lt_of_lt_of_le (Nat.lt_of_lt_of_le A1.lt E3.1) g6)) nin0))).keep K13 (ninS (Nat.ne_of_lt (Nat.lt_of_lt_of_eq A1.lt g3.symm)) (ninS (Nat.ne_of_lt (Nat.lt_of_lt_of_le (Nat.lt_of_lt_of_le A1.lt E3.1) g6)) nin0))).ext E15).keep K17 (ninS (Nat.ne_of_lt (Nat.lt_of_lt_of_eq A1.lt g3.symm)) (ninS (Nat.ne_of_lt (Nat.lt_of_lt_of_le (Nat.lt_of_lt_of_le A1.lt E3.1) g6)) nin0))).keep K20 (ninS (Nat.ne_of_lt (Nat.lt_of_lt_of_eq A1.lt g3.symm)) nin0)).keep K23 nin0) (((((((((F1_detailMessage.ext E3).keep K6 (ninS (Nat.ne_of_lt (Nat.lt_of_lt_of_eq A1.lt g3.symm)) nin0)).ext E8).keep K10 (ninS (Nat.ne_of_lt (Nat.lt_of_lt_of_eq A1.lt g3.symm)) (ninS (Nat.ne_of_lt (Nat.lt_of_lt_of_le (Nat.lt_of_lt_of_le A1.lt E3.1) g6)) nin0))).keep K13 (ninS (Nat.ne_of_lt (Nat.lt_of_lt_of_eq A1.lt g3.symm)) (ninS (Nat.ne_of_lt (Nat.lt_of_lt_of_le (Nat.lt_of_lt_of_le A1.lt E3.1) g6)) nin0))).ext E15).keep K17 (ninS (Nat.ne_of_lt (Nat.lt_of_lt_of_eq A1.lt g3.symm)) (ninS (Nat.ne_of_lt (Nat.lt_of_lt_of_le (Nat.lt_of_lt_of_le A1.lt E3.1) g6)) nin0))).keep K20 (ninS (Nat.ne_of_lt (Nat.lt_of_lt_of_eq A1.lt g3.symm)) nin0)).keep K23 nin0) (((((((((F1_reported.ext E3).keep K6 (ninS (Nat.ne_of_lt (Nat.lt_of_lt_of_eq A1.lt g3.symm)) nin0)).ext E8).keep K10 (ninS (Nat.ne_of_lt (Nat.lt_of_lt_of_eq A1.lt g3.symm)) (ninS (Nat.ne_of_lt (Nat.lt_of_lt_of_le (Nat.lt_of_lt_of_le A1.lt E3.1) g6)) nin0))).keep K13 (ninS (Nat.ne_of_lt (Nat.lt_of_lt_of_eq A1.lt g3.symm)) (ninS (Nat.ne_of_lt (Nat.lt_of_lt_of_le (Nat.lt_of_lt_of_le A1.lt E3.1) g6)) nin0))).ext E15).keep K17 (ninS (Nat.ne_of_lt (Nat.lt_of_lt_of_eq A1.lt g3.symm)) (ninS (Nat.ne_of_lt (Nat.lt_of_lt_of_le (Nat.lt_of_lt_of_le A1.lt E3.1) g6)) nin0))).keep K20 (ninS (Nat.ne_of_lt (Nat.lt_of_lt_of_eq A1.lt g3.symm)) nin0)).keep K23 nin0) (Nat.le_trans Z0 (Nat.le_of_eq g1.symm)) ((((((((((X00.ext E1).ext E3).keep K6 (allS (Nat.le_trans (Nat.le_trans Z0 E1.1) (Nat.le_of_eq g3.symm)) all0)).ext E8).keep K10 (allS (Nat.le_trans (Nat.le_trans Z0 E1.1) (Nat.le_of_eq g3.symm)) (allS (Nat.le_trans (Nat.le_trans Z0 (Nat.le_trans E1.1 E3.1)) g6) all0))).keep K13 (allS (Nat.le_trans (Nat.le_trans Z0 E1.1) (Nat.le_of_eq g3.symm)) (allS (Nat.le_trans (Nat.le_trans Z0 (Nat.le_trans E1.1 E3.1)) g6) all0))).ext E15).keep K17 (allS (Nat.le_trans (Nat.le_trans Z0 E1.1) (Nat.le_of_eq g3.symm)) (allS (Nat.le_trans (Nat.le_trans Z0 (Nat.le_trans E1.1 E3.1)) g6) all0))).keep K20 (allS (Nat.le_trans (Nat.le_trans Z0 E1.1) (Nat.le_of_eq g3.symm)) all0)).keep K23 all0) hl u0 u1 S0 hu0 S1 hu1) w24.2.1 (hw _ (List.mem_of_getElem? (i := 169) rfl)) (hw _ (List.mem_of_getElem? (i := 32) rfl)) (by decide) (by decide) (w24.knM hTK) (w24.knF hBelow)
  obtain ⟨_, L26, T26, X26, ⟨rfl, N26q, K26, E26, D26, R26⟩, st26⟩ := own_cI X23 hx w24.2.1 rfl w24.2.2.1 (hw _ (List.mem_of_getElem? (i := 167) rfl)) (hw _ (List.mem_of_getElem? (i := 168) rfl)) (hw _ (List.mem_of_getElem? (i := 169) rfl)) (by decide) rfl (h := T23.heap) (b := b1) (argsL := [(.ref x23), (.int (1 : Int32))]) (rest := [(.ref b1)]) K25 (pc := 33) (Ls := #[.val (.ref x), .val (.ref y)]) (by rw [hml]; rfl) (lenOf own_pd20 rfl) rfl (Nat.le_of_eq rfl) (hb hby own_d28_33) (by decide) (by decide)
  have N26 := Fr.app N23 N26q
  have w27 := w24.keep K26 (sfS (Safe.exa w24.2.1.alike (((((((((A1.ext E3).keep K6).ext E8).keep K10).keep K13).ext E15).keep K17).keep K20).keep K23) (by decide) (by decide)) sf0)
  refine own_stW (g' := (mkF m 36 #[.val (.ref x), .val (.ref y)] [(.ref b1)])) st26 ?_
  exact own_goWR X26 hh w27 hEL rfl hlk hx (t := (.object "com/example/titelfeld/titelfeld/command/CommandFailure")) rfl rfl Bd.returns (hb hby own_d28_36) ⟨N26, ((((((((((((Keep.refl h0 []).ext E1).ext E3).trans K6 (allS (Or.inr (Nat.le_trans E1.1 (Nat.le_of_eq g3.symm))) all0)).ext E8).trans K10 (allS (Or.inr (Nat.le_trans E1.1 (Nat.le_of_eq g3.symm))) (allS (Or.inr (Nat.le_trans (Nat.le_trans E1.1 E3.1) g6)) all0))).trans K13 (allS (Or.inr (Nat.le_trans E1.1 (Nat.le_of_eq g3.symm))) (allS (Or.inr (Nat.le_trans (Nat.le_trans E1.1 E3.1) g6)) all0))).ext E15).trans K17 (allS (Or.inr (Nat.le_trans E1.1 (Nat.le_of_eq g3.symm))) (allS (Or.inr (Nat.le_trans (Nat.le_trans E1.1 E3.1) g6)) all0))).trans K20 (allS (Or.inr (Nat.le_trans E1.1 (Nat.le_of_eq g3.symm))) all0)).trans K23 all0).trans K26 (allS (Or.inr (Nat.le_trans (Nat.le_refl _) (Nat.le_of_eq g1.symm))) all0)), b1, x23, t23, _, rfl, E26, D26, R26, (E23.keep K26), (F23.keep K26 (ninS (Ne.symm (Nat.ne_of_lt (Nat.lt_of_lt_of_le (Nat.lt_of_lt_of_le A1.lt (Nat.le_trans (Nat.le_trans (Nat.le_trans (Nat.le_trans (Nat.le_trans (Nat.le_trans (Nat.le_trans E3.1 K6.1) E8.1) K10.1) K13.1) E15.1) K17.1) K20.1)) gx23))) nin0)), (Cd23.keep K26 (ninS (Ne.symm (Nat.ne_of_lt (Nat.lt_of_lt_of_le (Nat.lt_of_lt_of_le A1.lt (Nat.le_trans (Nat.le_trans (Nat.le_trans (Nat.le_trans (Nat.le_trans (Nat.le_trans (Nat.le_trans E3.1 K6.1) E8.1) K10.1) K13.1) E15.1) K17.1) K20.1)) gx23))) nin0)), (by have q := (V23.keep K26 (ninS (Ne.symm (Nat.ne_of_lt (Nat.lt_of_lt_of_le (Nat.lt_of_lt_of_le A1.lt (Nat.le_trans (Nat.le_trans (Nat.le_trans (Nat.le_trans (Nat.le_trans (Nat.le_trans (Nat.le_trans E3.1 K6.1) E8.1) K10.1) K13.1) E15.1) K17.1) K20.1)) gt23))) nin0)); rw [ap20, ap17, ap13, ap10, show ((((0 + 12) + 2) + 2) + 2) = 18 by omega] at q; exact q)⟩ (by decide) (by decide)
theorem own_d29_0 : decode jdk_78_method_6_code 0 = .ok (.aload_n 0, 1) := by decide +kernel
theorem own_d29_1 : decode jdk_78_method_6_code 1 = .ok (.getfield 31, 3) := by decide +kernel
theorem own_d29_4 : decode jdk_78_method_6_code 4 = .ok (.areturn, 1) := by decide +kernel
set_option maxRecDepth 65536 in
set_option maxHeartbeats 40000000 in
theorem own_rm_gmsg (l : Launch) (Z : State) (a0 : Array Value) (hw : ∀ d ∈ tables_1, d.before a0 Z = true) (ws : List Jvm.Cond) (f x : Addr) (h0 : Heap) (DF : Fld Z h0 f "java/lang/Throwable" "detailMessage" "Ljava/lang/String;" (.ref x)) :
    MetFree l (⟨"java/lang/Throwable", "getMessage", "()Ljava/lang/String;"⟩ : MethodName) (head1 (Jvm.Cond.code (⟨"java/lang/Throwable", "getMessage", "()Ljava/lang/String;"⟩ : MethodName) jdk_78_method_6_code 1 (some (.object "java/lang/String")) :: ws) ({ frames := 0, cells := 0, slots := 0, locals := 0 } : Room)) (fun aa U => aa = #[(.ref f)] ∧ Z.Warmed39 U.vm ∧ U.heap = h0) (fun _ _ _ _ _ => True) (fun _ U o_ U' => ∃ v L, o_ = .returned v ∧ (fun v h L => v = some (.ref x) ∧ L = [] ∧ h = h0) v U'.heap L ∧ FrameEnd U o_ U' L ({ frames := 0, cells := 0, slots := 0, locals := 0 } : Room).cells ({ frames := 0, cells := 0, slots := 0, locals := 0 } : Room).slots) := by
  refine MetFree.of_bodySF (plainFor_of_name own_pn5) hisR ?_
  intro p e s m args below meth c s₁ Bd hml0 hP hK
  obtain ⟨rfl, hZ, hh⟩ := hP
  have hx := Bd.exec
  have hby := Bd.bytes
  have hml : c.maxLocals = 1 := hml0
  have hlk : meth.locks = false := BodyLoose.notSynchronized Bd
  have hown : s.vm.findClass "java/lang/Throwable" = some m.cls := findClass_of_methodNamed Bd.named
  have hnm := (name_of_methodNamed Bd.named Bd.method).1
  have X0 : Stand p l e ({ frames := 0, cells := 0, slots := 0, locals := 0 } : Room) s m #[(.ref f)] below meth c s₁ [] 0 0 := Stand.of_body Bd
  have e0 : s₁.heap = h0 := by rw [← hh, Bd.state]; rfl
  rw [own_ef0 m f]
  show own_Go p e below s ({ frames := 0, cells := 0, slots := 0, locals := 0 } : Room).cells ({ frames := 0, cells := 0, slots := 0, locals := 0 } : Room).slots (fun v h L => v = some (.ref x) ∧ L = [] ∧ h = h0) s₁ (mkF m 0 #[.val (.ref f)] [])
  refine own_st (g' := (mkF m 1 #[.val (.ref f)] [(.ref f)])) (fun _ q => XS.aloadN X0.here hx rfl (hb hby own_d29_0) rfl rfl (q)) ?_
  obtain ⟨T1, X1, e1, st1⟩ := getF X0 hx hZ hown (host := "") (Or.inl (hw _ (List.mem_of_getElem? (i := 217) rfl))) Via.refl e0 DF (g := (mkF m 1 #[.val (.ref f)] [(.ref f)])) rfl rfl (hb hby own_d29_1)
  refine own_st (g' := (mkF m 4 #[.val (.ref f)] [(.ref x)])) st1 ?_
  exact own_goR X1 hlk hx (t := (.object "java/lang/String")) rfl rfl Bd.returns (hb hby own_d29_4) ⟨rfl, rfl, e1⟩ (by decide) (by decide)
theorem own_d30_0 : decode prog_3_method_8_code 0 = .ok (.aload_n 0, 1) := by decide +kernel
theorem own_d30_1 : decode prog_3_method_8_code 1 = .ok (.getfield 12, 3) := by decide +kernel
theorem own_d30_4 : decode prog_3_method_8_code 4 = .ok (.ireturn, 1) := by decide +kernel
set_option maxRecDepth 65536 in
set_option maxHeartbeats 40000000 in
theorem own_rm_rptd (l : Launch) (Z : State) (a0 : Array Value) (hw : ∀ d ∈ tables_1, d.before a0 Z = true) (ws : List Jvm.Cond) (f : Addr) (h0 : Heap) (RF : Fld Z h0 f "com/example/titelfeld/titelfeld/command/CommandFailure" "reported" "Z" (.int (1 : Int32))) :
    MetFree l (⟨"com/example/titelfeld/titelfeld/command/CommandFailure", "reported", "()Z"⟩ : MethodName) (head1 (Jvm.Cond.code (⟨"com/example/titelfeld/titelfeld/command/CommandFailure", "reported", "()Z"⟩ : MethodName) prog_3_method_8_code 1 (some .boolean) :: ws) ({ frames := 0, cells := 0, slots := 0, locals := 0 } : Room)) (fun aa U => aa = #[(.ref f)] ∧ Z.Warmed39 U.vm ∧ U.heap = h0) (fun _ _ _ _ _ => True) (fun _ U o_ U' => ∃ v L, o_ = .returned v ∧ (fun v h L => v = some (.int (1 : Int32)) ∧ L = [] ∧ h = h0) v U'.heap L ∧ FrameEnd U o_ U' L ({ frames := 0, cells := 0, slots := 0, locals := 0 } : Room).cells ({ frames := 0, cells := 0, slots := 0, locals := 0 } : Room).slots) := by
  refine MetFree.of_bodySF (plainFor_of_name own_pn7) hisR ?_
  intro p e s m args below meth c s₁ Bd hml0 hP hK
  obtain ⟨rfl, hZ, hh⟩ := hP
  have hx := Bd.exec
  have hby := Bd.bytes
  have hml : c.maxLocals = 1 := hml0
  have hlk : meth.locks = false := BodyLoose.notSynchronized Bd
  have hown : s.vm.findClass "com/example/titelfeld/titelfeld/command/CommandFailure" = some m.cls := findClass_of_methodNamed Bd.named
  have hnm := (name_of_methodNamed Bd.named Bd.method).1
  have X0 : Stand p l e ({ frames := 0, cells := 0, slots := 0, locals := 0 } : Room) s m #[(.ref f)] below meth c s₁ [] 0 0 := Stand.of_body Bd
  have e0 : s₁.heap = h0 := by rw [← hh, Bd.state]; rfl
  rw [own_ef0 m f]
  show own_Go p e below s ({ frames := 0, cells := 0, slots := 0, locals := 0 } : Room).cells ({ frames := 0, cells := 0, slots := 0, locals := 0 } : Room).slots (fun v h L => v = some (.int (1 : Int32)) ∧ L = [] ∧ h = h0) s₁ (mkF m 0 #[.val (.ref f)] [])
  refine own_st (g' := (mkF m 1 #[.val (.ref f)] [(.ref f)])) (fun _ q => XS.aloadN X0.here hx rfl (hb hby own_d30_0) rfl rfl (q)) ?_
  obtain ⟨T1, X1, e1, st1⟩ := getF X0 hx hZ hown (host := "") (Or.inl (hw _ (List.mem_of_getElem? (i := 218) rfl))) Via.refl e0 RF (g := (mkF m 1 #[.val (.ref f)] [(.ref f)])) rfl rfl (hb hby own_d30_1)
  refine own_st (g' := (mkF m 4 #[.val (.ref f)] [(.int (1 : Int32))])) st1 ?_
  exact own_goN X1 hlk hx (t := .boolean) (by simp) Bd.returns (hb hby own_d30_4) ⟨rfl, rfl, e1⟩ (by decide) (by decide)
theorem own_nar_idem (x : Int32) : nar .char (nar .char x) = nar .char x := by simp only [nar, UInt32.toUInt32_toInt32, UInt16.toUInt16_toUInt32]
theorem own_and255 (x : Int32) : ¬ nar .char (x &&& (255 : Int32)) < 0 ∧ ¬ (255 : Int32) < nar .char (x &&& (255 : Int32)) := by
  have t : ∀ k : Fin 256, ¬ nar .char (Int32.ofNat k.val) < 0 ∧ ¬ (255 : Int32) < nar .char (Int32.ofNat k.val) := by decide +kernel
  have h : (x &&& 255).toBitVec.toNat < 256 := by
    simp only [Int32.toBitVec_and, BitVec.toNat_and]
    exact Nat.lt_succ_of_le Nat.and_le_right
  have e : (x &&& 255) = Int32.ofNat (x &&& 255).toBitVec.toNat := by
    apply Int32.toBitVec_inj.mp
    show _ = BitVec.ofNat 32 _
    rw [BitVec.ofNat_toNat]; simp
  rw [e]
  exact t ⟨_, h⟩
theorem own_chr (x : Int32) : ¬ nar .char ((x &&& (255 : Int32)).toUInt32.toUInt16.toUInt32.toInt32) < 0 ∧ ¬ (255 : Int32) < nar .char ((x &&& (255 : Int32)).toUInt32.toUInt16.toUInt32.toInt32) := by
  have e : nar .char ((x &&& (255 : Int32)).toUInt32.toUInt16.toUInt32.toInt32) = nar .char (x &&& (255 : Int32)) := own_nar_idem _
  rw [e]
  exact own_and255 x
theorem own_hb {cs : List Int32} (h : ∀ c ∈ cs, ¬ c < 0 ∧ ¬ (255 : Int32) < c) : ∀ c ∈ cs, ¬ c < 0 ∧ ¬ (65535 : Int32) < c := fun c hc => by
  obtain ⟨h1, h2⟩ := h c hc
  refine ⟨h1, ?_⟩
  rw [Int32.lt_iff_toInt_lt] at *
  have e1 : (255 : Int32).toInt = 255 := rfl
  have e2 : (65535 : Int32).toInt = 65535 := rfl
  omega
theorem own_two {a b : Int32} (ha : ¬ a < 0 ∧ ¬ (255 : Int32) < a) (hb : ¬ b < 0 ∧ ¬ (255 : Int32) < b) : ∀ c ∈ ([a, b] : List Int32), ¬ c < 0 ∧ ¬ (255 : Int32) < c := by
  intro c hc
  simp only [List.mem_cons, List.not_mem_nil, or_false] at hc
  rcases hc with rfl | rfl <;> assumption
abbrev own_cs (c0 c1 c2 c3 : Int32) : List Int32 := [(99 : Int32), (97 : Int32), (110 : Int32), (110 : Int32), (111 : Int32), (116 : Int32), (32 : Int32), (114 : Int32), (101 : Int32), (97 : Int32), (100 : Int32), (32 : Int32), c0, c1, (58 : Int32), (32 : Int32), c2, c3]
theorem own_cs_rng {c0 c1 c2 c3 : Int32} (h0 : ¬ c0 < 0 ∧ ¬ (255 : Int32) < c0) (h1 : ¬ c1 < 0 ∧ ¬ (255 : Int32) < c1) (h2 : ¬ c2 < 0 ∧ ¬ (255 : Int32) < c2) (h3 : ¬ c3 < 0 ∧ ¬ (255 : Int32) < c3) : ∀ c ∈ own_cs c0 c1 c2 c3, ¬ c < 0 ∧ ¬ (255 : Int32) < c := by
  intro c hc
  simp only [own_cs, List.mem_cons, List.not_mem_nil, or_false] at hc
  rcases hc with rfl | rfl | rfl | rfl | rfl | rfl | rfl | rfl | rfl | rfl | rfl | rfl | rfl | rfl | rfl | rfl | rfl | rfl <;> first | assumption | decide
theorem own_codM {c0 c1 c2 c3 : Int32} (h : ∀ c ∈ own_cs c0 c1 c2 c3, ¬ c < 0 ∧ ¬ (255 : Int32) < c) : StrChars.Road.CodA (own_cs c0 c1 c2 c3) 0 (Int32.ofNat 18) (own_msg ((([c0, c1] : List Int32).map (fun c => c.toInt8.toInt32)).map Value.int) ((([c2, c3] : List Int32).map (fun c => c.toInt8.toInt32)).map Value.int)) := Or.inl ⟨rfl, rfl, rfl, fun c hc => (h c hc).2⟩
theorem own_ef14 (m : MethodId) (x0 : Int32) (x1 : Int32) : entryFrame m #[(.int x0), (.int x1)] maxLocals = mkF m 0 #[.val (.int x0), .val (.int x1), .unset, .unset, .unset, .unset, .unset, .unset, .unset, .unset, .unset] [] := by first | (simp [entryFrame, mkF, argsToLocals, Value.category, maxLocals]; done) | rfl
theorem own_pn8 : plainName "com/example/titelfeld/titelfeld/command/CommandFailureReadingStoppedPinLaw" = true := by first | (simp [plainName, overriddenIn]; done) | decide +kernel
theorem own_pd21 : parseMethodDescriptor "([C)V" = some ⟨[(.array .char)], none⟩ := by decide +kernel
theorem own_pd22 : parseMethodDescriptor "(Ljava/lang/String;Ljava/lang/String;)Lcom/example/titelfeld/titelfeld/command/CommandFailure;" = some ⟨[(.object "java/lang/String"), (.object "java/lang/String")], some (.object "com/example/titelfeld/titelfeld/command/CommandFailure")⟩ := by decide +kernel
theorem own_pd23 : parseMethodDescriptor "(Ljava/lang/Object;)Z" = some ⟨[(.object "java/lang/Object")], some .boolean⟩ := by decide +kernel
set_option maxRecDepth 65536 in
set_option maxHeartbeats 40000000 in
theorem own_rm_law (l : Launch) (Z : State) (a0 : Array Value) (hw : ∀ d ∈ tables_1, d.before a0 Z = true) (ws : List Jvm.Cond) (p0 p1 z : Int32) (n0 : Nat) (h0 : Heap) (Z0 : n0 ≤ h0.size) (X00 : Old Z n0 h0) (O : Sta Z Z.heap "java/lang/String" "COMPACT_STRINGS" "Z" (.int z)) (hz : ¬ z = (0 : Int32)) (hl : l.stackTraces = true) (u0 u1 : Value) (S0 : Sta Z Z.heap "java/lang/Throwable" "UNASSIGNED_STACK" "[Ljava/lang/StackTraceElement;" u0) (hu0 : u0.isRef = true) (S1 : Sta Z Z.heap "java/lang/Throwable" "SUPPRESSED_SENTINEL" "Ljava/util/List;" u1) (hu1 : u1.isRef = true) :
    MetFree l x (head1 (Jvm.Cond.code x code maxLocals ret :: ws) room_1) (fun aa U => aa = #[(.int p0), (.int p1)] ∧ Z.Warmed39 U.vm ∧ U.heap = h0 ∧ CHv Z own_EL U.vm h0 ∧ ∀ y_ ∈ ([] : List Addr), Safe Z own_EL U.vm h0 y_) (fun _ _ _ s_ _ => framesKnown s_ = true ∧ tablesKnown s_ = true) (fun _ U o_ U' => ∃ v L, o_ = .returned v ∧ (fun v h L => v = some (.int (1 : Int32)) ∧ Fr n0 L) v U'.heap L ∧ CHr Z own_EL U.vm U.heap U'.vm U'.heap ∧ ReturnedEndW U o_ U' L room_1.cells room_1.slots) := by
  refine MetFree.of_bodySF (plainFor_of_name own_pn8) hisR ?_
  intro p e s m args below meth c s₁ Bd hml0 hP hK
  obtain ⟨rfl, hZ, hh, hH, hSf⟩ := hP
  have hx := Bd.exec
  have hby := Bd.bytes
  have hml : c.maxLocals = 11 := hml0
  have hlk : meth.locks = false := BodyLoose.notSynchronized Bd
  have hown : s.vm.findClass "com/example/titelfeld/titelfeld/command/CommandFailureReadingStoppedPinLaw" = some m.cls := findClass_of_methodNamed Bd.named
  have hnm := (name_of_methodNamed Bd.named Bd.method).1
  have X0 : Stand p l e room_1 (s.setVm s.vm) m #[(.int p0), (.int p1)] below meth c s₁ [] 0 0 := Stand.of_body Bd
  have e0 : s₁.heap = h0 := by rw [← hh, Bd.state]; rfl
  have hEL : EW Z a0 own_EL := own_ew hw
  have hSA : ∀ a ∈ Bundle.stringAtoms, a.before a0 Z = true := own_wS hw
  have W0 : own_W s Z own_EL "com/example/titelfeld/titelfeld/command/CommandFailureReadingStoppedPinLaw" m.cls h0 s.vm h0 := own_W.start hZ hown hH
  obtain ⟨hTK, hBelow⟩ := X0.known hK.2 hK.1
  rw [own_ef14 m p0 p1]
  show own_GoW p e below s Z own_EL room_1.cells room_1.slots (fun v h L => v = some (.int (1 : Int32)) ∧ Fr n0 L) s₁ (mkF m 0 #[.val (.int p0), .val (.int p1), .unset, .unset, .unset, .unset, .unset, .unset, .unset, .unset, .unset] [])
  have N0 := Fr.nil n0
  have hws := own_hws hw
  obtain ⟨c0, q0⟩ : ∃ z, z = nar .char ((p0 &&& (255 : Int32)).toUInt32.toUInt16.toUInt32.toInt32) := ⟨_, rfl⟩
  have rg0 := own_chr p0
  rw [← q0] at rg0
  obtain ⟨c1, q1⟩ : ∃ z, z = nar .char ((((p0.toUInt32 >>> ((8 : Int32) &&& 31).toUInt32).toInt32) &&& (255 : Int32)).toUInt32.toUInt16.toUInt32.toInt32) := ⟨_, rfl⟩
  have rg1 := own_chr ((p0.toUInt32 >>> ((8 : Int32) &&& 31).toUInt32).toInt32)
  rw [← q1] at rg1
  obtain ⟨c2, q2⟩ : ∃ z, z = nar .char ((p1 &&& (255 : Int32)).toUInt32.toUInt16.toUInt32.toInt32) := ⟨_, rfl⟩
  have rg2 := own_chr p1
  rw [← q2] at rg2
  obtain ⟨c3, q3⟩ : ∃ z, z = nar .char ((((p1.toUInt32 >>> ((8 : Int32) &&& 31).toUInt32).toInt32) &&& (255 : Int32)).toUInt32.toUInt16.toUInt32.toInt32) := ⟨_, rfl⟩
  have rg3 := own_chr ((p1.toUInt32 >>> ((8 : Int32) &&& 31).toUInt32).toInt32)
  rw [← q3] at rg3
  have hpM := own_cs_rng rg0 rg1 rg2 rg3
  refine own_stW (g' := (mkF m 21 #[.val (.int p0), .val (.int p1), .val (.int ((p0 &&& (255 : Int32)).toUInt32.toUInt16.toUInt32.toInt32)), .val (.int ((((p0.toUInt32 >>> ((8 : Int32) &&& 31).toUInt32).toInt32) &&& (255 : Int32)).toUInt32.toUInt16.toUInt32.toInt32)), .unset, .unset, .unset, .unset, .unset, .unset, .unset] [(.int (255 : Int32)), (.int p1)])) (fun _ q => XS.iloadN X0.here hx rfl (hb hby at_0) rfl (XS.sipush X0.here hx rfl (hb hby at_1) (XS.iand X0.here hx rfl (hb hby at_4) rfl (XS.i2c X0.here hx rfl (hb hby at_5) rfl (XS.istoreN X0.here hx rfl (hb hby at_6) rfl (l' := #[.val (.int p0), .val (.int p1), .val (.int ((p0 &&& (255 : Int32)).toUInt32.toUInt16.toUInt32.toInt32)), .unset, .unset, .unset, .unset, .unset, .unset, .unset, .unset]) rfl (XS.iloadN X0.here hx rfl (hb hby at_7) rfl (XS.bipush X0.here hx rfl (hb hby at_8) (XS.iushr X0.here hx rfl (hb hby at_10) rfl (XS.sipush X0.here hx rfl (hb hby at_11) (XS.iand X0.here hx rfl (hb hby at_14) rfl (XS.i2c X0.here hx rfl (hb hby at_15) rfl (XS.istoreN X0.here hx rfl (hb hby at_16) rfl (l' := #[.val (.int p0), .val (.int p1), .val (.int ((p0 &&& (255 : Int32)).toUInt32.toUInt16.toUInt32.toInt32)), .val (.int ((((p0.toUInt32 >>> ((8 : Int32) &&& 31).toUInt32).toInt32) &&& (255 : Int32)).toUInt32.toUInt16.toUInt32.toInt32)), .unset, .unset, .unset, .unset, .unset, .unset, .unset]) rfl (XS.iloadN X0.here hx rfl (hb hby at_17) rfl (XS.sipush X0.here hx rfl (hb hby at_18) (q))))))))))))))) ?_
  refine own_stW (g' := (mkF m 36 #[.val (.int p0), .val (.int p1), .val (.int ((p0 &&& (255 : Int32)).toUInt32.toUInt16.toUInt32.toInt32)), .val (.int ((((p0.toUInt32 >>> ((8 : Int32) &&& 31).toUInt32).toInt32) &&& (255 : Int32)).toUInt32.toUInt16.toUInt32.toInt32)), .val (.int ((p1 &&& (255 : Int32)).toUInt32.toUInt16.toUInt32.toInt32)), .val (.int ((((p1.toUInt32 >>> ((8 : Int32) &&& 31).toUInt32).toInt32) &&& (255 : Int32)).toUInt32.toUInt16.toUInt32.toInt32)), .unset, .unset, .unset, .unset, .unset] [])) (fun _ q => XS.iand X0.here hx rfl (hb hby at_21) rfl (XS.i2c X0.here hx rfl (hb hby at_22) rfl (XS.istore X0.here hx rfl (hb hby at_23) rfl (l' := #[.val (.int p0), .val (.int p1), .val (.int ((p0 &&& (255 : Int32)).toUInt32.toUInt16.toUInt32.toInt32)), .val (.int ((((p0.toUInt32 >>> ((8 : Int32) &&& 31).toUInt32).toInt32) &&& (255 : Int32)).toUInt32.toUInt16.toUInt32.toInt32)), .val (.int ((p1 &&& (255 : Int32)).toUInt32.toUInt16.toUInt32.toInt32)), .unset, .unset, .unset, .unset, .unset, .unset]) rfl (XS.iloadN X0.here hx rfl (hb hby at_25) rfl (XS.bipush X0.here hx rfl (hb hby at_26) (XS.iushr X0.here hx rfl (hb hby at_28) rfl (XS.sipush X0.here hx rfl (hb hby at_29) (XS.iand X0.here hx rfl (hb hby at_32) rfl (XS.i2c X0.here hx rfl (hb hby at_33) rfl (XS.istore X0.here hx rfl (hb hby at_34) rfl (l' := #[.val (.int p0), .val (.int p1), .val (.int ((p0 &&& (255 : Int32)).toUInt32.toUInt16.toUInt32.toInt32)), .val (.int ((((p0.toUInt32 >>> ((8 : Int32) &&& 31).toUInt32).toInt32) &&& (255 : Int32)).toUInt32.toUInt16.toUInt32.toInt32)), .val (.int ((p1 &&& (255 : Int32)).toUInt32.toUInt16.toUInt32.toInt32)), .val (.int ((((p1.toUInt32 >>> ((8 : Int32) &&& 31).toUInt32).toInt32) &&& (255 : Int32)).toUInt32.toUInt16.toUInt32.toInt32)), .unset, .unset, .unset, .unset, .unset]) rfl (q))))))))))) ?_
  obtain ⟨T1, h1, X1, e1, E1, A1, D1, U1, st1⟩ := newO X0 hx W0.2.1 W0.2.2.1 (hw _ (List.mem_of_getElem? (i := 0) rfl)) (hw _ (List.mem_of_getElem? (i := 1) rfl)) (hw _ (List.mem_of_getElem? (i := 2) rfl)) e0 (g := (mkF m 36 #[.val (.int p0), .val (.int p1), .val (.int ((p0 &&& (255 : Int32)).toUInt32.toUInt16.toUInt32.toInt32)), .val (.int ((((p0.toUInt32 >>> ((8 : Int32) &&& 31).toUInt32).toInt32) &&& (255 : Int32)).toUInt32.toUInt16.toUInt32.toInt32)), .val (.int ((p1 &&& (255 : Int32)).toUInt32.toUInt16.toUInt32.toInt32)), .val (.int ((((p1.toUInt32 >>> ((8 : Int32) &&& 31).toUInt32).toInt32) &&& (255 : Int32)).toUInt32.toUInt16.toUInt32.toInt32)), .unset, .unset, .unset, .unset, .unset] [])) rfl (hb hby at_36) (by decide) (by decide)
  obtain ⟨b1, g1⟩ : ∃ z, z = h0.size := ⟨_, rfl⟩
  rw [← g1] at A1 D1 U1 st1
  have w2 := W0.ext E1
  have F1_coder : Fld Z h1 b1 "java/lang/String" "coder" "B" (.int (0 : Int32)) := D1 (Or.inr (hw _ (List.mem_of_getElem? (i := 27) rfl))) (ty := .byte) (by decide)
  have F1_value : Fld Z h1 b1 "java/lang/String" "value" "[B" .null := D1 (Or.inr (hw _ (List.mem_of_getElem? (i := 29) rfl))) (ty := (.array .byte)) (by decide)
  refine own_stW (g' := (mkF m 39 #[.val (.int p0), .val (.int p1), .val (.int ((p0 &&& (255 : Int32)).toUInt32.toUInt16.toUInt32.toInt32)), .val (.int ((((p0.toUInt32 >>> ((8 : Int32) &&& 31).toUInt32).toInt32) &&& (255 : Int32)).toUInt32.toUInt16.toUInt32.toInt32)), .val (.int ((p1 &&& (255 : Int32)).toUInt32.toUInt16.toUInt32.toInt32)), .val (.int ((((p1.toUInt32 >>> ((8 : Int32) &&& 31).toUInt32).toInt32) &&& (255 : Int32)).toUInt32.toUInt16.toUInt32.toInt32)), .unset, .unset, .unset, .unset, .unset] [(.ref b1)])) st1 ?_
  refine own_stW (g' := (mkF m 41 #[.val (.int p0), .val (.int p1), .val (.int ((p0 &&& (255 : Int32)).toUInt32.toUInt16.toUInt32.toInt32)), .val (.int ((((p0.toUInt32 >>> ((8 : Int32) &&& 31).toUInt32).toInt32) &&& (255 : Int32)).toUInt32.toUInt16.toUInt32.toInt32)), .val (.int ((p1 &&& (255 : Int32)).toUInt32.toUInt16.toUInt32.toInt32)), .val (.int ((((p1.toUInt32 >>> ((8 : Int32) &&& 31).toUInt32).toInt32) &&& (255 : Int32)).toUInt32.toUInt16.toUInt32.toInt32)), .unset, .unset, .unset, .unset, .unset] [(.int (2 : Int32)), (.ref b1), (.ref b1)])) (fun _ q => XS.dup X1.here hx rfl (hb hby at_39) rfl rfl (XS.iconst X1.here hx rfl (hb hby at_40) (q))) ?_
  obtain ⟨T3, h3, k3, X3, e3, E3, A3, st3⟩ := newP X1 hx w2.2.1 (hw _ (List.mem_of_getElem? (i := 3) rfl)) e1 (g := (mkF m 41 #[.val (.int p0), .val (.int p1), .val (.int ((p0 &&& (255 : Int32)).toUInt32.toUInt16.toUInt32.toInt32)), .val (.int ((((p0.toUInt32 >>> ((8 : Int32) &&& 31).toUInt32).toInt32) &&& (255 : Int32)).toUInt32.toUInt16.toUInt32.toInt32)), .val (.int ((p1 &&& (255 : Int32)).toUInt32.toUInt16.toUInt32.toInt32)), .val (.int ((((p1.toUInt32 >>> ((8 : Int32) &&& 31).toUInt32).toInt32) &&& (255 : Int32)).toUInt32.toUInt16.toUInt32.toInt32)), .unset, .unset, .unset, .unset, .unset] [(.int (2 : Int32)), (.ref b1), (.ref b1)])) rfl (hb hby at_41) rfl (by decide) (cap := 2) (by decide) (by decide) (by decide) (by decide)
  obtain ⟨b3, g3⟩ : ∃ z, z = h1.size := ⟨_, rfl⟩
  rw [← g3] at A3 st3
  have V3 : Arv Z h3 b3 k3 .char (2 : Int32) [(.int (0 : Int32)), (.int (0 : Int32))] (.int (0 : Int32)) := (Arv.new A3 (by decide)).pad (pad_rep [] (.int (0 : Int32)) 2)
  have w4 := w2.ext E3
  refine own_stW (g' := (mkF m 43 #[.val (.int p0), .val (.int p1), .val (.int ((p0 &&& (255 : Int32)).toUInt32.toUInt16.toUInt32.toInt32)), .val (.int ((((p0.toUInt32 >>> ((8 : Int32) &&& 31).toUInt32).toInt32) &&& (255 : Int32)).toUInt32.toUInt16.toUInt32.toInt32)), .val (.int ((p1 &&& (255 : Int32)).toUInt32.toUInt16.toUInt32.toInt32)), .val (.int ((((p1.toUInt32 >>> ((8 : Int32) &&& 31).toUInt32).toInt32) &&& (255 : Int32)).toUInt32.toUInt16.toUInt32.toInt32)), .unset, .unset, .unset, .unset, .unset] [(.ref b3), (.ref b1), (.ref b1)])) st3 ?_
  refine own_stW (g' := (mkF m 46 #[.val (.int p0), .val (.int p1), .val (.int ((p0 &&& (255 : Int32)).toUInt32.toUInt16.toUInt32.toInt32)), .val (.int ((((p0.toUInt32 >>> ((8 : Int32) &&& 31).toUInt32).toInt32) &&& (255 : Int32)).toUInt32.toUInt16.toUInt32.toInt32)), .val (.int ((p1 &&& (255 : Int32)).toUInt32.toUInt16.toUInt32.toInt32)), .val (.int ((((p1.toUInt32 >>> ((8 : Int32) &&& 31).toUInt32).toInt32) &&& (255 : Int32)).toUInt32.toUInt16.toUInt32.toInt32)), .unset, .unset, .unset, .unset, .unset] [(.int ((p0 &&& (255 : Int32)).toUInt32.toUInt16.toUInt32.toInt32)), (.int (0 : Int32)), (.ref b3), (.ref b3), (.ref b1), (.ref b1)])) (fun _ q => XS.dup X3.here hx rfl (hb hby at_43) rfl rfl (XS.iconst X3.here hx rfl (hb hby at_44) (XS.iloadN X3.here hx rfl (hb hby at_45) rfl (q)))) ?_
  obtain ⟨T5, h5, X5, e5, V5, W5, st5⟩ := own_cast X3 hx w4.2.1 e3 V3 (j := (0 : Int32)) (x := ((p0 &&& (255 : Int32)).toUInt32.toUInt16.toUInt32.toInt32)) ⟨by decide, by decide⟩ 0 rfl (Nat.le_of_ble_eq_true rfl) (pc := 46) (Ls := #[.val (.int p0), .val (.int p1), .val (.int ((p0 &&& (255 : Int32)).toUInt32.toUInt16.toUInt32.toInt32)), .val (.int ((((p0.toUInt32 >>> ((8 : Int32) &&& 31).toUInt32).toInt32) &&& (255 : Int32)).toUInt32.toUInt16.toUInt32.toInt32)), .val (.int ((p1 &&& (255 : Int32)).toUInt32.toUInt16.toUInt32.toInt32)), .val (.int ((((p1.toUInt32 >>> ((8 : Int32) &&& 31).toUInt32).toInt32) &&& (255 : Int32)).toUInt32.toUInt16.toUInt32.toInt32)), .unset, .unset, .unset, .unset, .unset]) (rest := [(.ref b3), (.ref b1), (.ref b1)]) (hb hby at_46)
  replace V5 : Arv Z h5 b3 k3 .char (2 : Int32) [(.int c0), (.int (0 : Int32))] (.int (0 : Int32)) := by rw [q0]; exact V5
  have N5 := Fr.snoc X5 N0 (Nat.le_trans (Nat.le_trans Z0 E1.1) (Nat.le_of_eq g3.symm))
  have qsw6 : Safe Z own_EL s.vm h3 b3 := (Safe.arv w4.2.1.alike V3 (by simp))
  have w6 := w4.wr W5 qsw6
  refine own_stW (g' := (mkF m 47 #[.val (.int p0), .val (.int p1), .val (.int ((p0 &&& (255 : Int32)).toUInt32.toUInt16.toUInt32.toInt32)), .val (.int ((((p0.toUInt32 >>> ((8 : Int32) &&& 31).toUInt32).toInt32) &&& (255 : Int32)).toUInt32.toUInt16.toUInt32.toInt32)), .val (.int ((p1 &&& (255 : Int32)).toUInt32.toUInt16.toUInt32.toInt32)), .val (.int ((((p1.toUInt32 >>> ((8 : Int32) &&& 31).toUInt32).toInt32) &&& (255 : Int32)).toUInt32.toUInt16.toUInt32.toInt32)), .unset, .unset, .unset, .unset, .unset] [(.ref b3), (.ref b1), (.ref b1)])) st5 ?_
  refine own_stW (g' := (mkF m 50 #[.val (.int p0), .val (.int p1), .val (.int ((p0 &&& (255 : Int32)).toUInt32.toUInt16.toUInt32.toInt32)), .val (.int ((((p0.toUInt32 >>> ((8 : Int32) &&& 31).toUInt32).toInt32) &&& (255 : Int32)).toUInt32.toUInt16.toUInt32.toInt32)), .val (.int ((p1 &&& (255 : Int32)).toUInt32.toUInt16.toUInt32.toInt32)), .val (.int ((((p1.toUInt32 >>> ((8 : Int32) &&& 31).toUInt32).toInt32) &&& (255 : Int32)).toUInt32.toUInt16.toUInt32.toInt32)), .unset, .unset, .unset, .unset, .unset] [(.int ((((p0.toUInt32 >>> ((8 : Int32) &&& 31).toUInt32).toInt32) &&& (255 : Int32)).toUInt32.toUInt16.toUInt32.toInt32)), (.int (1 : Int32)), (.ref b3), (.ref b3), (.ref b1), (.ref b1)])) (fun _ q => XS.dup X5.here hx rfl (hb hby at_47) rfl rfl (XS.iconst X5.here hx rfl (hb hby at_48) (XS.iloadN X5.here hx rfl (hb hby at_49) rfl (q)))) ?_
  obtain ⟨T7, h7, X7, e7, V7, W7, st7⟩ := own_cast X5 hx w6.2.1 e5 V5 (j := (1 : Int32)) (x := ((((p0.toUInt32 >>> ((8 : Int32) &&& 31).toUInt32).toInt32) &&& (255 : Int32)).toUInt32.toUInt16.toUInt32.toInt32)) ⟨by decide, by decide⟩ 1 rfl (Nat.le_of_ble_eq_true rfl) (pc := 50) (Ls := #[.val (.int p0), .val (.int p1), .val (.int ((p0 &&& (255 : Int32)).toUInt32.toUInt16.toUInt32.toInt32)), .val (.int ((((p0.toUInt32 >>> ((8 : Int32) &&& 31).toUInt32).toInt32) &&& (255 : Int32)).toUInt32.toUInt16.toUInt32.toInt32)), .val (.int ((p1 &&& (255 : Int32)).toUInt32.toUInt16.toUInt32.toInt32)), .val (.int ((((p1.toUInt32 >>> ((8 : Int32) &&& 31).toUInt32).toInt32) &&& (255 : Int32)).toUInt32.toUInt16.toUInt32.toInt32)), .unset, .unset, .unset, .unset, .unset]) (rest := [(.ref b3), (.ref b1), (.ref b1)]) (hb hby at_50)
  replace V7 : Arv Z h7 b3 k3 .char (2 : Int32) [(.int c0), (.int c1)] (.int (0 : Int32)) := by rw [q1]; exact V7
  have N7 := Fr.snoc X7 N5 (Nat.le_trans (Nat.le_trans Z0 E1.1) (Nat.le_of_eq g3.symm))
  have qsw8 : Safe Z own_EL s.vm h5 b3 := (Safe.arv w6.2.1.alike V5 (by simp))
  have w8 := w6.wr W7 qsw8
  refine own_stW (g' := (mkF m 51 #[.val (.int p0), .val (.int p1), .val (.int ((p0 &&& (255 : Int32)).toUInt32.toUInt16.toUInt32.toInt32)), .val (.int ((((p0.toUInt32 >>> ((8 : Int32) &&& 31).toUInt32).toInt32) &&& (255 : Int32)).toUInt32.toUInt16.toUInt32.toInt32)), .val (.int ((p1 &&& (255 : Int32)).toUInt32.toUInt16.toUInt32.toInt32)), .val (.int ((((p1.toUInt32 >>> ((8 : Int32) &&& 31).toUInt32).toInt32) &&& (255 : Int32)).toUInt32.toUInt16.toUInt32.toInt32)), .unset, .unset, .unset, .unset, .unset] [(.ref b3), (.ref b1), (.ref b1)])) st7 ?_
  obtain ⟨_, L9, T9, X9, ⟨rfl, N9q, K9, E9, C9, t9, kb9, u9, v9, w9, F9, A9⟩, st9⟩ := own_cI X7 hx w8.2.1 rfl w8.2.2.1 (hw _ (List.mem_of_getElem? (i := 4) rfl)) (hw _ (List.mem_of_getElem? (i := 5) rfl)) (hw _ (List.mem_of_getElem? (i := 6) rfl)) (by decide) e7 (h := h7) (b := b1) (argsL := [(.ref b3)]) (rest := [(.ref b1)]) (StrChars.Road.backV (s := (s.setVm s.vm)) (W := 1) w8.2.1 hws (kI := 4) (hw _ (List.mem_of_getElem? (i := 1) rfl)) (cs := ([c0, c1] : List Int32)) (bs := (([c0, c1] : List Int32)).map (fun c => c.toInt8.toInt32)) (n := 2) (n0 := n0) (Nat.le_trans Z0 (Nat.le_of_eq g1.symm)) (Nat.le_trans Z0 (Nat.le_trans (Nat.le_trans (Nat.le_trans E1.1 E3.1) (Keep.of_wr W5).1) (Keep.of_wr W7).1)) (((A1.ext E3).wr W5).wr W7) (((F1_value.ext E3).other W5 (Or.inl (Nat.ne_of_lt (Nat.lt_of_lt_of_eq A1.lt g3.symm)))).other W7 (Or.inl (Nat.ne_of_lt (Nat.lt_of_lt_of_eq A1.lt g3.symm)))) (((F1_coder.ext E3).other W5 (Or.inl (Nat.ne_of_lt (Nat.lt_of_lt_of_eq A1.lt g3.symm)))).other W7 (Or.inl (Nat.ne_of_lt (Nat.lt_of_lt_of_eq A1.lt g3.symm)))) V7 (O.ext ((((X00.ext E1).ext E3).wr W5 (Nat.le_trans (Nat.le_trans Z0 E1.1) (Nat.le_of_eq g3.symm))).wr W7 (Nat.le_trans (Nat.le_trans Z0 E1.1) (Nat.le_of_eq g3.symm))).2) hz rfl rfl (by decide) (by decide) (own_two rg0 rg1) rfl (by decide) (by decide)) (pc := 51) (Ls := #[.val (.int p0), .val (.int p1), .val (.int ((p0 &&& (255 : Int32)).toUInt32.toUInt16.toUInt32.toInt32)), .val (.int ((((p0.toUInt32 >>> ((8 : Int32) &&& 31).toUInt32).toInt32) &&& (255 : Int32)).toUInt32.toUInt16.toUInt32.toInt32)), .val (.int ((p1 &&& (255 : Int32)).toUInt32.toUInt16.toUInt32.toInt32)), .val (.int ((((p1.toUInt32 >>> ((8 : Int32) &&& 31).toUInt32).toInt32) &&& (255 : Int32)).toUInt32.toUInt16.toUInt32.toInt32)), .unset, .unset, .unset, .unset, .unset]) (by rw [hml]; rfl) (lenOf own_pd21 rfl) rfl (Nat.le_of_eq rfl) (hb hby at_51) (by decide) (by decide)
  refine own_stW (g' := (mkF m 54 #[.val (.int p0), .val (.int p1), .val (.int ((p0 &&& (255 : Int32)).toUInt32.toUInt16.toUInt32.toInt32)), .val (.int ((((p0.toUInt32 >>> ((8 : Int32) &&& 31).toUInt32).toInt32) &&& (255 : Int32)).toUInt32.toUInt16.toUInt32.toInt32)), .val (.int ((p1 &&& (255 : Int32)).toUInt32.toUInt16.toUInt32.toInt32)), .val (.int ((((p1.toUInt32 >>> ((8 : Int32) &&& 31).toUInt32).toInt32) &&& (255 : Int32)).toUInt32.toUInt16.toUInt32.toInt32)), .unset, .unset, .unset, .unset, .unset] [(.ref b1)])) st9 ?_
  have N9 := Fr.app N7 N9q
  have w10 := w8.keep K9 (sfS (Safe.wr W7 qsw8 w6.held (Safe.wr W5 qsw6 w4.held (Safe.ext E3 w2.held (Safe.ext E1 W0.held (Safe.new (Nat.le_of_eq g1.symm)))))) sf0)
  refine own_stW (g' := (mkF m 56 #[.val (.int p0), .val (.int p1), .val (.int ((p0 &&& (255 : Int32)).toUInt32.toUInt16.toUInt32.toInt32)), .val (.int ((((p0.toUInt32 >>> ((8 : Int32) &&& 31).toUInt32).toInt32) &&& (255 : Int32)).toUInt32.toUInt16.toUInt32.toInt32)), .val (.int ((p1 &&& (255 : Int32)).toUInt32.toUInt16.toUInt32.toInt32)), .val (.int ((((p1.toUInt32 >>> ((8 : Int32) &&& 31).toUInt32).toInt32) &&& (255 : Int32)).toUInt32.toUInt16.toUInt32.toInt32)), .val (.ref b1), .unset, .unset, .unset, .unset] [])) (fun _ q => XS.astore X9.here hx rfl (hb hby at_54) rfl rfl (l' := #[.val (.int p0), .val (.int p1), .val (.int ((p0 &&& (255 : Int32)).toUInt32.toUInt16.toUInt32.toInt32)), .val (.int ((((p0.toUInt32 >>> ((8 : Int32) &&& 31).toUInt32).toInt32) &&& (255 : Int32)).toUInt32.toUInt16.toUInt32.toInt32)), .val (.int ((p1 &&& (255 : Int32)).toUInt32.toUInt16.toUInt32.toInt32)), .val (.int ((((p1.toUInt32 >>> ((8 : Int32) &&& 31).toUInt32).toInt32) &&& (255 : Int32)).toUInt32.toUInt16.toUInt32.toInt32)), .val (.ref b1), .unset, .unset, .unset, .unset]) rfl (q)) ?_
  obtain ⟨T11, h11, X11, e11, E11, A11, D11, U11, st11⟩ := newO X9 hx w10.2.1 w10.2.2.1 (hw _ (List.mem_of_getElem? (i := 0) rfl)) (hw _ (List.mem_of_getElem? (i := 1) rfl)) (hw _ (List.mem_of_getElem? (i := 2) rfl)) rfl (g := (mkF m 56 #[.val (.int p0), .val (.int p1), .val (.int ((p0 &&& (255 : Int32)).toUInt32.toUInt16.toUInt32.toInt32)), .val (.int ((((p0.toUInt32 >>> ((8 : Int32) &&& 31).toUInt32).toInt32) &&& (255 : Int32)).toUInt32.toUInt16.toUInt32.toInt32)), .val (.int ((p1 &&& (255 : Int32)).toUInt32.toUInt16.toUInt32.toInt32)), .val (.int ((((p1.toUInt32 >>> ((8 : Int32) &&& 31).toUInt32).toInt32) &&& (255 : Int32)).toUInt32.toUInt16.toUInt32.toInt32)), .val (.ref b1), .unset, .unset, .unset, .unset] [])) rfl (hb hby at_56) (by decide) (by decide)
  obtain ⟨b11, g11⟩ : ∃ z, z = T9.heap.size := ⟨_, rfl⟩
  rw [← g11] at A11 D11 U11 st11
  have w12 := w10.ext E11
  have F11_coder : Fld Z h11 b11 "java/lang/String" "coder" "B" (.int (0 : Int32)) := D11 (Or.inr (hw _ (List.mem_of_getElem? (i := 27) rfl))) (ty := .byte) (by decide)
  have F11_value : Fld Z h11 b11 "java/lang/String" "value" "[B" .null := D11 (Or.inr (hw _ (List.mem_of_getElem? (i := 29) rfl))) (ty := (.array .byte)) (by decide)
  refine own_stW (g' := (mkF m 59 #[.val (.int p0), .val (.int p1), .val (.int ((p0 &&& (255 : Int32)).toUInt32.toUInt16.toUInt32.toInt32)), .val (.int ((((p0.toUInt32 >>> ((8 : Int32) &&& 31).toUInt32).toInt32) &&& (255 : Int32)).toUInt32.toUInt16.toUInt32.toInt32)), .val (.int ((p1 &&& (255 : Int32)).toUInt32.toUInt16.toUInt32.toInt32)), .val (.int ((((p1.toUInt32 >>> ((8 : Int32) &&& 31).toUInt32).toInt32) &&& (255 : Int32)).toUInt32.toUInt16.toUInt32.toInt32)), .val (.ref b1), .unset, .unset, .unset, .unset] [(.ref b11)])) st11 ?_
  refine own_stW (g' := (mkF m 61 #[.val (.int p0), .val (.int p1), .val (.int ((p0 &&& (255 : Int32)).toUInt32.toUInt16.toUInt32.toInt32)), .val (.int ((((p0.toUInt32 >>> ((8 : Int32) &&& 31).toUInt32).toInt32) &&& (255 : Int32)).toUInt32.toUInt16.toUInt32.toInt32)), .val (.int ((p1 &&& (255 : Int32)).toUInt32.toUInt16.toUInt32.toInt32)), .val (.int ((((p1.toUInt32 >>> ((8 : Int32) &&& 31).toUInt32).toInt32) &&& (255 : Int32)).toUInt32.toUInt16.toUInt32.toInt32)), .val (.ref b1), .unset, .unset, .unset, .unset] [(.int (2 : Int32)), (.ref b11), (.ref b11)])) (fun _ q => XS.dup X11.here hx rfl (hb hby at_59) rfl rfl (XS.iconst X11.here hx rfl (hb hby at_60) (q))) ?_
  obtain ⟨T13, h13, k13, X13, e13, E13, A13, st13⟩ := newP X11 hx w12.2.1 (hw _ (List.mem_of_getElem? (i := 3) rfl)) e11 (g := (mkF m 61 #[.val (.int p0), .val (.int p1), .val (.int ((p0 &&& (255 : Int32)).toUInt32.toUInt16.toUInt32.toInt32)), .val (.int ((((p0.toUInt32 >>> ((8 : Int32) &&& 31).toUInt32).toInt32) &&& (255 : Int32)).toUInt32.toUInt16.toUInt32.toInt32)), .val (.int ((p1 &&& (255 : Int32)).toUInt32.toUInt16.toUInt32.toInt32)), .val (.int ((((p1.toUInt32 >>> ((8 : Int32) &&& 31).toUInt32).toInt32) &&& (255 : Int32)).toUInt32.toUInt16.toUInt32.toInt32)), .val (.ref b1), .unset, .unset, .unset, .unset] [(.int (2 : Int32)), (.ref b11), (.ref b11)])) rfl (hb hby at_61) rfl (by decide) (cap := 2) (by decide) (by decide) (by decide) (by decide)
  obtain ⟨b13, g13⟩ : ∃ z, z = h11.size := ⟨_, rfl⟩
  rw [← g13] at A13 st13
  have V13 : Arv Z h13 b13 k13 .char (2 : Int32) [(.int (0 : Int32)), (.int (0 : Int32))] (.int (0 : Int32)) := (Arv.new A13 (by decide)).pad (pad_rep [] (.int (0 : Int32)) 2)
  have w14 := w12.ext E13
  refine own_stW (g' := (mkF m 63 #[.val (.int p0), .val (.int p1), .val (.int ((p0 &&& (255 : Int32)).toUInt32.toUInt16.toUInt32.toInt32)), .val (.int ((((p0.toUInt32 >>> ((8 : Int32) &&& 31).toUInt32).toInt32) &&& (255 : Int32)).toUInt32.toUInt16.toUInt32.toInt32)), .val (.int ((p1 &&& (255 : Int32)).toUInt32.toUInt16.toUInt32.toInt32)), .val (.int ((((p1.toUInt32 >>> ((8 : Int32) &&& 31).toUInt32).toInt32) &&& (255 : Int32)).toUInt32.toUInt16.toUInt32.toInt32)), .val (.ref b1), .unset, .unset, .unset, .unset] [(.ref b13), (.ref b11), (.ref b11)])) st13 ?_
  refine own_stW (g' := (mkF m 67 #[.val (.int p0), .val (.int p1), .val (.int ((p0 &&& (255 : Int32)).toUInt32.toUInt16.toUInt32.toInt32)), .val (.int ((((p0.toUInt32 >>> ((8 : Int32) &&& 31).toUInt32).toInt32) &&& (255 : Int32)).toUInt32.toUInt16.toUInt32.toInt32)), .val (.int ((p1 &&& (255 : Int32)).toUInt32.toUInt16.toUInt32.toInt32)), .val (.int ((((p1.toUInt32 >>> ((8 : Int32) &&& 31).toUInt32).toInt32) &&& (255 : Int32)).toUInt32.toUInt16.toUInt32.toInt32)), .val (.ref b1), .unset, .unset, .unset, .unset] [(.int ((p1 &&& (255 : Int32)).toUInt32.toUInt16.toUInt32.toInt32)), (.int (0 : Int32)), (.ref b13), (.ref b13), (.ref b11), (.ref b11)])) (fun _ q => XS.dup X13.here hx rfl (hb hby at_63) rfl rfl (XS.iconst X13.here hx rfl (hb hby at_64) (XS.iload X13.here hx rfl (hb hby at_65) rfl (q)))) ?_
  obtain ⟨T15, h15, X15, e15, V15, W15, st15⟩ := own_cast X13 hx w14.2.1 e13 V13 (j := (0 : Int32)) (x := ((p1 &&& (255 : Int32)).toUInt32.toUInt16.toUInt32.toInt32)) ⟨by decide, by decide⟩ 0 rfl (Nat.le_of_ble_eq_true rfl) (pc := 67) (Ls := #[.val (.int p0), .val (.int p1), .val (.int ((p0 &&& (255 : Int32)).toUInt32.toUInt16.toUInt32.toInt32)), .val (.int ((((p0.toUInt32 >>> ((8 : Int32) &&& 31).toUInt32).toInt32) &&& (255 : Int32)).toUInt32.toUInt16.toUInt32.toInt32)), .val (.int ((p1 &&& (255 : Int32)).toUInt32.toUInt16.toUInt32.toInt32)), .val (.int ((((p1.toUInt32 >>> ((8 : Int32) &&& 31).toUInt32).toInt32) &&& (255 : Int32)).toUInt32.toUInt16.toUInt32.toInt32)), .val (.ref b1), .unset, .unset, .unset, .unset]) (rest := [(.ref b13), (.ref b11), (.ref b11)]) (hb hby at_67)
  replace V15 : Arv Z h15 b13 k13 .char (2 : Int32) [(.int c2), (.int (0 : Int32))] (.int (0 : Int32)) := by rw [q2]; exact V15
  have N15 := Fr.snoc X15 N9 (Nat.le_trans (Nat.le_trans Z0 (Nat.le_trans (Nat.le_trans (Nat.le_trans (Nat.le_trans (Nat.le_trans E1.1 E3.1) (Keep.of_wr W5).1) (Keep.of_wr W7).1) K9.1) E11.1)) (Nat.le_of_eq g13.symm))
  have qsw16 : Safe Z own_EL s.vm h13 b13 := (Safe.arv w14.2.1.alike V13 (by simp))
  have w16 := w14.wr W15 qsw16
  refine own_stW (g' := (mkF m 68 #[.val (.int p0), .val (.int p1), .val (.int ((p0 &&& (255 : Int32)).toUInt32.toUInt16.toUInt32.toInt32)), .val (.int ((((p0.toUInt32 >>> ((8 : Int32) &&& 31).toUInt32).toInt32) &&& (255 : Int32)).toUInt32.toUInt16.toUInt32.toInt32)), .val (.int ((p1 &&& (255 : Int32)).toUInt32.toUInt16.toUInt32.toInt32)), .val (.int ((((p1.toUInt32 >>> ((8 : Int32) &&& 31).toUInt32).toInt32) &&& (255 : Int32)).toUInt32.toUInt16.toUInt32.toInt32)), .val (.ref b1), .unset, .unset, .unset, .unset] [(.ref b13), (.ref b11), (.ref b11)])) st15 ?_
  refine own_stW (g' := (mkF m 72 #[.val (.int p0), .val (.int p1), .val (.int ((p0 &&& (255 : Int32)).toUInt32.toUInt16.toUInt32.toInt32)), .val (.int ((((p0.toUInt32 >>> ((8 : Int32) &&& 31).toUInt32).toInt32) &&& (255 : Int32)).toUInt32.toUInt16.toUInt32.toInt32)), .val (.int ((p1 &&& (255 : Int32)).toUInt32.toUInt16.toUInt32.toInt32)), .val (.int ((((p1.toUInt32 >>> ((8 : Int32) &&& 31).toUInt32).toInt32) &&& (255 : Int32)).toUInt32.toUInt16.toUInt32.toInt32)), .val (.ref b1), .unset, .unset, .unset, .unset] [(.int ((((p1.toUInt32 >>> ((8 : Int32) &&& 31).toUInt32).toInt32) &&& (255 : Int32)).toUInt32.toUInt16.toUInt32.toInt32)), (.int (1 : Int32)), (.ref b13), (.ref b13), (.ref b11), (.ref b11)])) (fun _ q => XS.dup X15.here hx rfl (hb hby at_68) rfl rfl (XS.iconst X15.here hx rfl (hb hby at_69) (XS.iload X15.here hx rfl (hb hby at_70) rfl (q)))) ?_
  obtain ⟨T17, h17, X17, e17, V17, W17, st17⟩ := own_cast X15 hx w16.2.1 e15 V15 (j := (1 : Int32)) (x := ((((p1.toUInt32 >>> ((8 : Int32) &&& 31).toUInt32).toInt32) &&& (255 : Int32)).toUInt32.toUInt16.toUInt32.toInt32)) ⟨by decide, by decide⟩ 1 rfl (Nat.le_of_ble_eq_true rfl) (pc := 72) (Ls := #[.val (.int p0), .val (.int p1), .val (.int ((p0 &&& (255 : Int32)).toUInt32.toUInt16.toUInt32.toInt32)), .val (.int ((((p0.toUInt32 >>> ((8 : Int32) &&& 31).toUInt32).toInt32) &&& (255 : Int32)).toUInt32.toUInt16.toUInt32.toInt32)), .val (.int ((p1 &&& (255 : Int32)).toUInt32.toUInt16.toUInt32.toInt32)), .val (.int ((((p1.toUInt32 >>> ((8 : Int32) &&& 31).toUInt32).toInt32) &&& (255 : Int32)).toUInt32.toUInt16.toUInt32.toInt32)), .val (.ref b1), .unset, .unset, .unset, .unset]) (rest := [(.ref b13), (.ref b11), (.ref b11)]) (hb hby at_72)
  replace V17 : Arv Z h17 b13 k13 .char (2 : Int32) [(.int c2), (.int c3)] (.int (0 : Int32)) := by rw [q3]; exact V17
  have N17 := Fr.snoc X17 N15 (Nat.le_trans (Nat.le_trans Z0 (Nat.le_trans (Nat.le_trans (Nat.le_trans (Nat.le_trans (Nat.le_trans E1.1 E3.1) (Keep.of_wr W5).1) (Keep.of_wr W7).1) K9.1) E11.1)) (Nat.le_of_eq g13.symm))
  have qsw18 : Safe Z own_EL s.vm h15 b13 := (Safe.arv w16.2.1.alike V15 (by simp))
  have w18 := w16.wr W17 qsw18
  refine own_stW (g' := (mkF m 73 #[.val (.int p0), .val (.int p1), .val (.int ((p0 &&& (255 : Int32)).toUInt32.toUInt16.toUInt32.toInt32)), .val (.int ((((p0.toUInt32 >>> ((8 : Int32) &&& 31).toUInt32).toInt32) &&& (255 : Int32)).toUInt32.toUInt16.toUInt32.toInt32)), .val (.int ((p1 &&& (255 : Int32)).toUInt32.toUInt16.toUInt32.toInt32)), .val (.int ((((p1.toUInt32 >>> ((8 : Int32) &&& 31).toUInt32).toInt32) &&& (255 : Int32)).toUInt32.toUInt16.toUInt32.toInt32)), .val (.ref b1), .unset, .unset, .unset, .unset] [(.ref b13), (.ref b11), (.ref b11)])) st17 ?_
  obtain ⟨_, L19, T19, X19, ⟨rfl, N19q, K19, E19, C19, t19, kb19, u19, v19, w19, F19, A19⟩, st19⟩ := own_cI X17 hx w18.2.1 rfl w18.2.2.1 (hw _ (List.mem_of_getElem? (i := 4) rfl)) (hw _ (List.mem_of_getElem? (i := 5) rfl)) (hw _ (List.mem_of_getElem? (i := 6) rfl)) (by decide) e17 (h := h17) (b := b11) (argsL := [(.ref b13)]) (rest := [(.ref b11)]) (StrChars.Road.backV (s := (s.setVm s.vm)) (W := 1) w18.2.1 hws (kI := 4) (hw _ (List.mem_of_getElem? (i := 1) rfl)) (cs := ([c2, c3] : List Int32)) (bs := (([c2, c3] : List Int32)).map (fun c => c.toInt8.toInt32)) (n := 2) (n0 := n0) (Nat.le_trans (Nat.le_trans Z0 (Nat.le_trans (Nat.le_trans (Nat.le_trans (Nat.le_trans E1.1 E3.1) (Keep.of_wr W5).1) (Keep.of_wr W7).1) K9.1)) (Nat.le_of_eq g11.symm)) (Nat.le_trans Z0 (Nat.le_trans (Nat.le_trans (Nat.le_trans (Nat.le_trans (Nat.le_trans (Nat.le_trans (Nat.le_trans (Nat.le_trans E1.1 E3.1) (Keep.of_wr W5).1) (Keep.of_wr W7).1) K9.1) E11.1) E13.1) (Keep.of_wr W15).1) (Keep.of_wr W17).1)) (((A11.ext E13).wr W15).wr W17) (((F11_value.ext E13).other W15 (Or.inl (Nat.ne_of_lt (Nat.lt_of_lt_of_eq A11.lt g13.symm)))).other W17 (Or.inl (Nat.ne_of_lt (Nat.lt_of_lt_of_eq A11.lt g13.symm)))) (((F11_coder.ext E13).other W15 (Or.inl (Nat.ne_of_lt (Nat.lt_of_lt_of_eq A11.lt g13.symm)))).other W17 (Or.inl (Nat.ne_of_lt (Nat.lt_of_lt_of_eq A11.lt g13.symm)))) V17 (O.ext (((((((((X00.ext E1).ext E3).wr W5 (Nat.le_trans (Nat.le_trans Z0 E1.1) (Nat.le_of_eq g3.symm))).wr W7 (Nat.le_trans (Nat.le_trans Z0 E1.1) (Nat.le_of_eq g3.symm))).keep K9 (allS (Nat.le_trans Z0 (Nat.le_of_eq g1.symm)) all0)).ext E11).ext E13).wr W15 (Nat.le_trans (Nat.le_trans Z0 (Nat.le_trans (Nat.le_trans (Nat.le_trans (Nat.le_trans (Nat.le_trans E1.1 E3.1) (Keep.of_wr W5).1) (Keep.of_wr W7).1) K9.1) E11.1)) (Nat.le_of_eq g13.symm))).wr W17 (Nat.le_trans (Nat.le_trans Z0 (Nat.le_trans (Nat.le_trans (Nat.le_trans (Nat.le_trans (Nat.le_trans E1.1 E3.1) (Keep.of_wr W5).1) (Keep.of_wr W7).1) K9.1) E11.1)) (Nat.le_of_eq g13.symm))).2) hz rfl rfl (by decide) (by decide) (own_two rg2 rg3) rfl (by decide) (by decide)) (pc := 73) (Ls := #[.val (.int p0), .val (.int p1), .val (.int ((p0 &&& (255 : Int32)).toUInt32.toUInt16.toUInt32.toInt32)), .val (.int ((((p0.toUInt32 >>> ((8 : Int32) &&& 31).toUInt32).toInt32) &&& (255 : Int32)).toUInt32.toUInt16.toUInt32.toInt32)), .val (.int ((p1 &&& (255 : Int32)).toUInt32.toUInt16.toUInt32.toInt32)), .val (.int ((((p1.toUInt32 >>> ((8 : Int32) &&& 31).toUInt32).toInt32) &&& (255 : Int32)).toUInt32.toUInt16.toUInt32.toInt32)), .val (.ref b1), .unset, .unset, .unset, .unset]) (by rw [hml]; rfl) (lenOf own_pd21 rfl) rfl (Nat.le_of_eq rfl) (hb hby at_73) (by decide) (by decide)
  refine own_stW (g' := (mkF m 76 #[.val (.int p0), .val (.int p1), .val (.int ((p0 &&& (255 : Int32)).toUInt32.toUInt16.toUInt32.toInt32)), .val (.int ((((p0.toUInt32 >>> ((8 : Int32) &&& 31).toUInt32).toInt32) &&& (255 : Int32)).toUInt32.toUInt16.toUInt32.toInt32)), .val (.int ((p1 &&& (255 : Int32)).toUInt32.toUInt16.toUInt32.toInt32)), .val (.int ((((p1.toUInt32 >>> ((8 : Int32) &&& 31).toUInt32).toInt32) &&& (255 : Int32)).toUInt32.toUInt16.toUInt32.toInt32)), .val (.ref b1), .unset, .unset, .unset, .unset] [(.ref b11)])) st19 ?_
  have N19 := Fr.app N17 N19q
  have w20 := w18.keep K19 (sfS (Safe.wr W17 qsw18 w16.held (Safe.wr W15 qsw16 w14.held (Safe.ext E13 w12.held (Safe.ext E11 w10.held (Safe.new (Nat.le_of_eq g11.symm)))))) sf0)
  refine own_stW (g' := (mkF m 78 #[.val (.int p0), .val (.int p1), .val (.int ((p0 &&& (255 : Int32)).toUInt32.toUInt16.toUInt32.toInt32)), .val (.int ((((p0.toUInt32 >>> ((8 : Int32) &&& 31).toUInt32).toInt32) &&& (255 : Int32)).toUInt32.toUInt16.toUInt32.toInt32)), .val (.int ((p1 &&& (255 : Int32)).toUInt32.toUInt16.toUInt32.toInt32)), .val (.int ((((p1.toUInt32 >>> ((8 : Int32) &&& 31).toUInt32).toInt32) &&& (255 : Int32)).toUInt32.toUInt16.toUInt32.toInt32)), .val (.ref b1), .val (.ref b11), .unset, .unset, .unset] [])) (fun _ q => XS.astore X19.here hx rfl (hb hby at_76) rfl rfl (l' := #[.val (.int p0), .val (.int p1), .val (.int ((p0 &&& (255 : Int32)).toUInt32.toUInt16.toUInt32.toInt32)), .val (.int ((((p0.toUInt32 >>> ((8 : Int32) &&& 31).toUInt32).toInt32) &&& (255 : Int32)).toUInt32.toUInt16.toUInt32.toInt32)), .val (.int ((p1 &&& (255 : Int32)).toUInt32.toUInt16.toUInt32.toInt32)), .val (.int ((((p1.toUInt32 >>> ((8 : Int32) &&& 31).toUInt32).toInt32) &&& (255 : Int32)).toUInt32.toUInt16.toUInt32.toInt32)), .val (.ref b1), .val (.ref b11), .unset, .unset, .unset]) rfl (q)) ?_
  obtain ⟨T21, h21, X21, e21, E21, A21, D21, U21, st21⟩ := newO X19 hx w20.2.1 w20.2.2.1 (hw _ (List.mem_of_getElem? (i := 0) rfl)) (hw _ (List.mem_of_getElem? (i := 1) rfl)) (hw _ (List.mem_of_getElem? (i := 2) rfl)) rfl (g := (mkF m 78 #[.val (.int p0), .val (.int p1), .val (.int ((p0 &&& (255 : Int32)).toUInt32.toUInt16.toUInt32.toInt32)), .val (.int ((((p0.toUInt32 >>> ((8 : Int32) &&& 31).toUInt32).toInt32) &&& (255 : Int32)).toUInt32.toUInt16.toUInt32.toInt32)), .val (.int ((p1 &&& (255 : Int32)).toUInt32.toUInt16.toUInt32.toInt32)), .val (.int ((((p1.toUInt32 >>> ((8 : Int32) &&& 31).toUInt32).toInt32) &&& (255 : Int32)).toUInt32.toUInt16.toUInt32.toInt32)), .val (.ref b1), .val (.ref b11), .unset, .unset, .unset] [])) rfl (hb hby at_78) (by decide) (by decide)
  obtain ⟨b21, g21⟩ : ∃ z, z = T19.heap.size := ⟨_, rfl⟩
  rw [← g21] at A21 D21 U21 st21
  have w22 := w20.ext E21
  have F21_coder : Fld Z h21 b21 "java/lang/String" "coder" "B" (.int (0 : Int32)) := D21 (Or.inr (hw _ (List.mem_of_getElem? (i := 27) rfl))) (ty := .byte) (by decide)
  have F21_value : Fld Z h21 b21 "java/lang/String" "value" "[B" .null := D21 (Or.inr (hw _ (List.mem_of_getElem? (i := 29) rfl))) (ty := (.array .byte)) (by decide)
  refine own_stW (g' := (mkF m 81 #[.val (.int p0), .val (.int p1), .val (.int ((p0 &&& (255 : Int32)).toUInt32.toUInt16.toUInt32.toInt32)), .val (.int ((((p0.toUInt32 >>> ((8 : Int32) &&& 31).toUInt32).toInt32) &&& (255 : Int32)).toUInt32.toUInt16.toUInt32.toInt32)), .val (.int ((p1 &&& (255 : Int32)).toUInt32.toUInt16.toUInt32.toInt32)), .val (.int ((((p1.toUInt32 >>> ((8 : Int32) &&& 31).toUInt32).toInt32) &&& (255 : Int32)).toUInt32.toUInt16.toUInt32.toInt32)), .val (.ref b1), .val (.ref b11), .unset, .unset, .unset] [(.ref b21)])) st21 ?_
  refine own_stW (g' := (mkF m 84 #[.val (.int p0), .val (.int p1), .val (.int ((p0 &&& (255 : Int32)).toUInt32.toUInt16.toUInt32.toInt32)), .val (.int ((((p0.toUInt32 >>> ((8 : Int32) &&& 31).toUInt32).toInt32) &&& (255 : Int32)).toUInt32.toUInt16.toUInt32.toInt32)), .val (.int ((p1 &&& (255 : Int32)).toUInt32.toUInt16.toUInt32.toInt32)), .val (.int ((((p1.toUInt32 >>> ((8 : Int32) &&& 31).toUInt32).toInt32) &&& (255 : Int32)).toUInt32.toUInt16.toUInt32.toInt32)), .val (.ref b1), .val (.ref b11), .unset, .unset, .unset] [(.int (18 : Int32)), (.ref b21), (.ref b21)])) (fun _ q => XS.dup X21.here hx rfl (hb hby at_81) rfl rfl (XS.bipush X21.here hx rfl (hb hby at_82) (q))) ?_
  obtain ⟨T23, h23, k23, X23, e23, E23, A23, st23⟩ := newP X21 hx w22.2.1 (hw _ (List.mem_of_getElem? (i := 3) rfl)) e21 (g := (mkF m 84 #[.val (.int p0), .val (.int p1), .val (.int ((p0 &&& (255 : Int32)).toUInt32.toUInt16.toUInt32.toInt32)), .val (.int ((((p0.toUInt32 >>> ((8 : Int32) &&& 31).toUInt32).toInt32) &&& (255 : Int32)).toUInt32.toUInt16.toUInt32.toInt32)), .val (.int ((p1 &&& (255 : Int32)).toUInt32.toUInt16.toUInt32.toInt32)), .val (.int ((((p1.toUInt32 >>> ((8 : Int32) &&& 31).toUInt32).toInt32) &&& (255 : Int32)).toUInt32.toUInt16.toUInt32.toInt32)), .val (.ref b1), .val (.ref b11), .unset, .unset, .unset] [(.int (18 : Int32)), (.ref b21), (.ref b21)])) rfl (hb hby at_84) rfl (by decide) (cap := 18) (by decide) (by decide) (by decide) (by decide)
  obtain ⟨b23, g23⟩ : ∃ z, z = h21.size := ⟨_, rfl⟩
  rw [← g23] at A23 st23
  have V23 : Arv Z h23 b23 k23 .char (18 : Int32) [(.int (0 : Int32)), (.int (0 : Int32)), (.int (0 : Int32)), (.int (0 : Int32)), (.int (0 : Int32)), (.int (0 : Int32)), (.int (0 : Int32)), (.int (0 : Int32)), (.int (0 : Int32)), (.int (0 : Int32)), (.int (0 : Int32)), (.int (0 : Int32)), (.int (0 : Int32)), (.int (0 : Int32)), (.int (0 : Int32)), (.int (0 : Int32)), (.int (0 : Int32)), (.int (0 : Int32))] (.int (0 : Int32)) := (Arv.new A23 (by decide)).pad (pad_rep [] (.int (0 : Int32)) 18)
  have w24 := w22.ext E23
  refine own_stW (g' := (mkF m 86 #[.val (.int p0), .val (.int p1), .val (.int ((p0 &&& (255 : Int32)).toUInt32.toUInt16.toUInt32.toInt32)), .val (.int ((((p0.toUInt32 >>> ((8 : Int32) &&& 31).toUInt32).toInt32) &&& (255 : Int32)).toUInt32.toUInt16.toUInt32.toInt32)), .val (.int ((p1 &&& (255 : Int32)).toUInt32.toUInt16.toUInt32.toInt32)), .val (.int ((((p1.toUInt32 >>> ((8 : Int32) &&& 31).toUInt32).toInt32) &&& (255 : Int32)).toUInt32.toUInt16.toUInt32.toInt32)), .val (.ref b1), .val (.ref b11), .unset, .unset, .unset] [(.ref b23), (.ref b21), (.ref b21)])) st23 ?_
  refine own_stW (g' := (mkF m 90 #[.val (.int p0), .val (.int p1), .val (.int ((p0 &&& (255 : Int32)).toUInt32.toUInt16.toUInt32.toInt32)), .val (.int ((((p0.toUInt32 >>> ((8 : Int32) &&& 31).toUInt32).toInt32) &&& (255 : Int32)).toUInt32.toUInt16.toUInt32.toInt32)), .val (.int ((p1 &&& (255 : Int32)).toUInt32.toUInt16.toUInt32.toInt32)), .val (.int ((((p1.toUInt32 >>> ((8 : Int32) &&& 31).toUInt32).toInt32) &&& (255 : Int32)).toUInt32.toUInt16.toUInt32.toInt32)), .val (.ref b1), .val (.ref b11), .unset, .unset, .unset] [(.int (99 : Int32)), (.int (0 : Int32)), (.ref b23), (.ref b23), (.ref b21), (.ref b21)])) (fun _ q => XS.dup X23.here hx rfl (hb hby at_86) rfl rfl (XS.iconst X23.here hx rfl (hb hby at_87) (XS.bipush X23.here hx rfl (hb hby at_88) (q)))) ?_
  obtain ⟨T25, h25, X25, e25, V25, W25, st25⟩ := own_cast X23 hx w24.2.1 e23 V23 (j := (0 : Int32)) (x := (99 : Int32)) ⟨by decide, by decide⟩ 0 rfl (Nat.le_of_ble_eq_true rfl) (pc := 90) (Ls := #[.val (.int p0), .val (.int p1), .val (.int ((p0 &&& (255 : Int32)).toUInt32.toUInt16.toUInt32.toInt32)), .val (.int ((((p0.toUInt32 >>> ((8 : Int32) &&& 31).toUInt32).toInt32) &&& (255 : Int32)).toUInt32.toUInt16.toUInt32.toInt32)), .val (.int ((p1 &&& (255 : Int32)).toUInt32.toUInt16.toUInt32.toInt32)), .val (.int ((((p1.toUInt32 >>> ((8 : Int32) &&& 31).toUInt32).toInt32) &&& (255 : Int32)).toUInt32.toUInt16.toUInt32.toInt32)), .val (.ref b1), .val (.ref b11), .unset, .unset, .unset]) (rest := [(.ref b23), (.ref b21), (.ref b21)]) (hb hby at_90)
  replace V25 : Arv Z h25 b23 k23 .char (18 : Int32) [(.int (99 : Int32)), (.int (0 : Int32)), (.int (0 : Int32)), (.int (0 : Int32)), (.int (0 : Int32)), (.int (0 : Int32)), (.int (0 : Int32)), (.int (0 : Int32)), (.int (0 : Int32)), (.int (0 : Int32)), (.int (0 : Int32)), (.int (0 : Int32)), (.int (0 : Int32)), (.int (0 : Int32)), (.int (0 : Int32)), (.int (0 : Int32)), (.int (0 : Int32)), (.int (0 : Int32))] (.int (0 : Int32)) := V25
  have N25 := Fr.snoc X25 N19 (Nat.le_trans (Nat.le_trans Z0 (Nat.le_trans (Nat.le_trans (Nat.le_trans (Nat.le_trans (Nat.le_trans (Nat.le_trans (Nat.le_trans (Nat.le_trans (Nat.le_trans (Nat.le_trans E1.1 E3.1) (Keep.of_wr W5).1) (Keep.of_wr W7).1) K9.1) E11.1) E13.1) (Keep.of_wr W15).1) (Keep.of_wr W17).1) K19.1) E21.1)) (Nat.le_of_eq g23.symm))
  have qsw26 : Safe Z own_EL s.vm h23 b23 := (Safe.arv w24.2.1.alike V23 (by simp))
  have w26 := w24.wr W25 qsw26
  refine own_stW (g' := (mkF m 91 #[.val (.int p0), .val (.int p1), .val (.int ((p0 &&& (255 : Int32)).toUInt32.toUInt16.toUInt32.toInt32)), .val (.int ((((p0.toUInt32 >>> ((8 : Int32) &&& 31).toUInt32).toInt32) &&& (255 : Int32)).toUInt32.toUInt16.toUInt32.toInt32)), .val (.int ((p1 &&& (255 : Int32)).toUInt32.toUInt16.toUInt32.toInt32)), .val (.int ((((p1.toUInt32 >>> ((8 : Int32) &&& 31).toUInt32).toInt32) &&& (255 : Int32)).toUInt32.toUInt16.toUInt32.toInt32)), .val (.ref b1), .val (.ref b11), .unset, .unset, .unset] [(.ref b23), (.ref b21), (.ref b21)])) st25 ?_
  refine own_stW (g' := (mkF m 95 #[.val (.int p0), .val (.int p1), .val (.int ((p0 &&& (255 : Int32)).toUInt32.toUInt16.toUInt32.toInt32)), .val (.int ((((p0.toUInt32 >>> ((8 : Int32) &&& 31).toUInt32).toInt32) &&& (255 : Int32)).toUInt32.toUInt16.toUInt32.toInt32)), .val (.int ((p1 &&& (255 : Int32)).toUInt32.toUInt16.toUInt32.toInt32)), .val (.int ((((p1.toUInt32 >>> ((8 : Int32) &&& 31).toUInt32).toInt32) &&& (255 : Int32)).toUInt32.toUInt16.toUInt32.toInt32)), .val (.ref b1), .val (.ref b11), .unset, .unset, .unset] [(.int (97 : Int32)), (.int (1 : Int32)), (.ref b23), (.ref b23), (.ref b21), (.ref b21)])) (fun _ q => XS.dup X25.here hx rfl (hb hby at_91) rfl rfl (XS.iconst X25.here hx rfl (hb hby at_92) (XS.bipush X25.here hx rfl (hb hby at_93) (q)))) ?_
  obtain ⟨T27, h27, X27, e27, V27, W27, st27⟩ := own_cast X25 hx w26.2.1 e25 V25 (j := (1 : Int32)) (x := (97 : Int32)) ⟨by decide, by decide⟩ 1 rfl (Nat.le_of_ble_eq_true rfl) (pc := 95) (Ls := #[.val (.int p0), .val (.int p1), .val (.int ((p0 &&& (255 : Int32)).toUInt32.toUInt16.toUInt32.toInt32)), .val (.int ((((p0.toUInt32 >>> ((8 : Int32) &&& 31).toUInt32).toInt32) &&& (255 : Int32)).toUInt32.toUInt16.toUInt32.toInt32)), .val (.int ((p1 &&& (255 : Int32)).toUInt32.toUInt16.toUInt32.toInt32)), .val (.int ((((p1.toUInt32 >>> ((8 : Int32) &&& 31).toUInt32).toInt32) &&& (255 : Int32)).toUInt32.toUInt16.toUInt32.toInt32)), .val (.ref b1), .val (.ref b11), .unset, .unset, .unset]) (rest := [(.ref b23), (.ref b21), (.ref b21)]) (hb hby at_95)
  replace V27 : Arv Z h27 b23 k23 .char (18 : Int32) [(.int (99 : Int32)), (.int (97 : Int32)), (.int (0 : Int32)), (.int (0 : Int32)), (.int (0 : Int32)), (.int (0 : Int32)), (.int (0 : Int32)), (.int (0 : Int32)), (.int (0 : Int32)), (.int (0 : Int32)), (.int (0 : Int32)), (.int (0 : Int32)), (.int (0 : Int32)), (.int (0 : Int32)), (.int (0 : Int32)), (.int (0 : Int32)), (.int (0 : Int32)), (.int (0 : Int32))] (.int (0 : Int32)) := V27
  have N27 := Fr.snoc X27 N25 (Nat.le_trans (Nat.le_trans Z0 (Nat.le_trans (Nat.le_trans (Nat.le_trans (Nat.le_trans (Nat.le_trans (Nat.le_trans (Nat.le_trans (Nat.le_trans (Nat.le_trans (Nat.le_trans E1.1 E3.1) (Keep.of_wr W5).1) (Keep.of_wr W7).1) K9.1) E11.1) E13.1) (Keep.of_wr W15).1) (Keep.of_wr W17).1) K19.1) E21.1)) (Nat.le_of_eq g23.symm))
  have qsw28 : Safe Z own_EL s.vm h25 b23 := (Safe.arv w26.2.1.alike V25 (by simp))
  have w28 := w26.wr W27 qsw28
  refine own_stW (g' := (mkF m 96 #[.val (.int p0), .val (.int p1), .val (.int ((p0 &&& (255 : Int32)).toUInt32.toUInt16.toUInt32.toInt32)), .val (.int ((((p0.toUInt32 >>> ((8 : Int32) &&& 31).toUInt32).toInt32) &&& (255 : Int32)).toUInt32.toUInt16.toUInt32.toInt32)), .val (.int ((p1 &&& (255 : Int32)).toUInt32.toUInt16.toUInt32.toInt32)), .val (.int ((((p1.toUInt32 >>> ((8 : Int32) &&& 31).toUInt32).toInt32) &&& (255 : Int32)).toUInt32.toUInt16.toUInt32.toInt32)), .val (.ref b1), .val (.ref b11), .unset, .unset, .unset] [(.ref b23), (.ref b21), (.ref b21)])) st27 ?_
  refine own_stW (g' := (mkF m 100 #[.val (.int p0), .val (.int p1), .val (.int ((p0 &&& (255 : Int32)).toUInt32.toUInt16.toUInt32.toInt32)), .val (.int ((((p0.toUInt32 >>> ((8 : Int32) &&& 31).toUInt32).toInt32) &&& (255 : Int32)).toUInt32.toUInt16.toUInt32.toInt32)), .val (.int ((p1 &&& (255 : Int32)).toUInt32.toUInt16.toUInt32.toInt32)), .val (.int ((((p1.toUInt32 >>> ((8 : Int32) &&& 31).toUInt32).toInt32) &&& (255 : Int32)).toUInt32.toUInt16.toUInt32.toInt32)), .val (.ref b1), .val (.ref b11), .unset, .unset, .unset] [(.int (110 : Int32)), (.int (2 : Int32)), (.ref b23), (.ref b23), (.ref b21), (.ref b21)])) (fun _ q => XS.dup X27.here hx rfl (hb hby at_96) rfl rfl (XS.iconst X27.here hx rfl (hb hby at_97) (XS.bipush X27.here hx rfl (hb hby at_98) (q)))) ?_
  obtain ⟨T29, h29, X29, e29, V29, W29, st29⟩ := own_cast X27 hx w28.2.1 e27 V27 (j := (2 : Int32)) (x := (110 : Int32)) ⟨by decide, by decide⟩ 2 rfl (Nat.le_of_ble_eq_true rfl) (pc := 100) (Ls := #[.val (.int p0), .val (.int p1), .val (.int ((p0 &&& (255 : Int32)).toUInt32.toUInt16.toUInt32.toInt32)), .val (.int ((((p0.toUInt32 >>> ((8 : Int32) &&& 31).toUInt32).toInt32) &&& (255 : Int32)).toUInt32.toUInt16.toUInt32.toInt32)), .val (.int ((p1 &&& (255 : Int32)).toUInt32.toUInt16.toUInt32.toInt32)), .val (.int ((((p1.toUInt32 >>> ((8 : Int32) &&& 31).toUInt32).toInt32) &&& (255 : Int32)).toUInt32.toUInt16.toUInt32.toInt32)), .val (.ref b1), .val (.ref b11), .unset, .unset, .unset]) (rest := [(.ref b23), (.ref b21), (.ref b21)]) (hb hby at_100)
  replace V29 : Arv Z h29 b23 k23 .char (18 : Int32) [(.int (99 : Int32)), (.int (97 : Int32)), (.int (110 : Int32)), (.int (0 : Int32)), (.int (0 : Int32)), (.int (0 : Int32)), (.int (0 : Int32)), (.int (0 : Int32)), (.int (0 : Int32)), (.int (0 : Int32)), (.int (0 : Int32)), (.int (0 : Int32)), (.int (0 : Int32)), (.int (0 : Int32)), (.int (0 : Int32)), (.int (0 : Int32)), (.int (0 : Int32)), (.int (0 : Int32))] (.int (0 : Int32)) := V29
  have N29 := Fr.snoc X29 N27 (Nat.le_trans (Nat.le_trans Z0 (Nat.le_trans (Nat.le_trans (Nat.le_trans (Nat.le_trans (Nat.le_trans (Nat.le_trans (Nat.le_trans (Nat.le_trans (Nat.le_trans (Nat.le_trans E1.1 E3.1) (Keep.of_wr W5).1) (Keep.of_wr W7).1) K9.1) E11.1) E13.1) (Keep.of_wr W15).1) (Keep.of_wr W17).1) K19.1) E21.1)) (Nat.le_of_eq g23.symm))
  have qsw30 : Safe Z own_EL s.vm h27 b23 := (Safe.arv w28.2.1.alike V27 (by simp))
  have w30 := w28.wr W29 qsw30
  refine own_stW (g' := (mkF m 101 #[.val (.int p0), .val (.int p1), .val (.int ((p0 &&& (255 : Int32)).toUInt32.toUInt16.toUInt32.toInt32)), .val (.int ((((p0.toUInt32 >>> ((8 : Int32) &&& 31).toUInt32).toInt32) &&& (255 : Int32)).toUInt32.toUInt16.toUInt32.toInt32)), .val (.int ((p1 &&& (255 : Int32)).toUInt32.toUInt16.toUInt32.toInt32)), .val (.int ((((p1.toUInt32 >>> ((8 : Int32) &&& 31).toUInt32).toInt32) &&& (255 : Int32)).toUInt32.toUInt16.toUInt32.toInt32)), .val (.ref b1), .val (.ref b11), .unset, .unset, .unset] [(.ref b23), (.ref b21), (.ref b21)])) st29 ?_
  refine own_stW (g' := (mkF m 105 #[.val (.int p0), .val (.int p1), .val (.int ((p0 &&& (255 : Int32)).toUInt32.toUInt16.toUInt32.toInt32)), .val (.int ((((p0.toUInt32 >>> ((8 : Int32) &&& 31).toUInt32).toInt32) &&& (255 : Int32)).toUInt32.toUInt16.toUInt32.toInt32)), .val (.int ((p1 &&& (255 : Int32)).toUInt32.toUInt16.toUInt32.toInt32)), .val (.int ((((p1.toUInt32 >>> ((8 : Int32) &&& 31).toUInt32).toInt32) &&& (255 : Int32)).toUInt32.toUInt16.toUInt32.toInt32)), .val (.ref b1), .val (.ref b11), .unset, .unset, .unset] [(.int (110 : Int32)), (.int (3 : Int32)), (.ref b23), (.ref b23), (.ref b21), (.ref b21)])) (fun _ q => XS.dup X29.here hx rfl (hb hby at_101) rfl rfl (XS.iconst X29.here hx rfl (hb hby at_102) (XS.bipush X29.here hx rfl (hb hby at_103) (q)))) ?_
  obtain ⟨T31, h31, X31, e31, V31, W31, st31⟩ := own_cast X29 hx w30.2.1 e29 V29 (j := (3 : Int32)) (x := (110 : Int32)) ⟨by decide, by decide⟩ 3 rfl (Nat.le_of_ble_eq_true rfl) (pc := 105) (Ls := #[.val (.int p0), .val (.int p1), .val (.int ((p0 &&& (255 : Int32)).toUInt32.toUInt16.toUInt32.toInt32)), .val (.int ((((p0.toUInt32 >>> ((8 : Int32) &&& 31).toUInt32).toInt32) &&& (255 : Int32)).toUInt32.toUInt16.toUInt32.toInt32)), .val (.int ((p1 &&& (255 : Int32)).toUInt32.toUInt16.toUInt32.toInt32)), .val (.int ((((p1.toUInt32 >>> ((8 : Int32) &&& 31).toUInt32).toInt32) &&& (255 : Int32)).toUInt32.toUInt16.toUInt32.toInt32)), .val (.ref b1), .val (.ref b11), .unset, .unset, .unset]) (rest := [(.ref b23), (.ref b21), (.ref b21)]) (hb hby at_105)
  replace V31 : Arv Z h31 b23 k23 .char (18 : Int32) [(.int (99 : Int32)), (.int (97 : Int32)), (.int (110 : Int32)), (.int (110 : Int32)), (.int (0 : Int32)), (.int (0 : Int32)), (.int (0 : Int32)), (.int (0 : Int32)), (.int (0 : Int32)), (.int (0 : Int32)), (.int (0 : Int32)), (.int (0 : Int32)), (.int (0 : Int32)), (.int (0 : Int32)), (.int (0 : Int32)), (.int (0 : Int32)), (.int (0 : Int32)), (.int (0 : Int32))] (.int (0 : Int32)) := V31
  have N31 := Fr.snoc X31 N29 (Nat.le_trans (Nat.le_trans Z0 (Nat.le_trans (Nat.le_trans (Nat.le_trans (Nat.le_trans (Nat.le_trans (Nat.le_trans (Nat.le_trans (Nat.le_trans (Nat.le_trans (Nat.le_trans E1.1 E3.1) (Keep.of_wr W5).1) (Keep.of_wr W7).1) K9.1) E11.1) E13.1) (Keep.of_wr W15).1) (Keep.of_wr W17).1) K19.1) E21.1)) (Nat.le_of_eq g23.symm))
  have qsw32 : Safe Z own_EL s.vm h29 b23 := (Safe.arv w30.2.1.alike V29 (by simp))
  have w32 := w30.wr W31 qsw32
  refine own_stW (g' := (mkF m 106 #[.val (.int p0), .val (.int p1), .val (.int ((p0 &&& (255 : Int32)).toUInt32.toUInt16.toUInt32.toInt32)), .val (.int ((((p0.toUInt32 >>> ((8 : Int32) &&& 31).toUInt32).toInt32) &&& (255 : Int32)).toUInt32.toUInt16.toUInt32.toInt32)), .val (.int ((p1 &&& (255 : Int32)).toUInt32.toUInt16.toUInt32.toInt32)), .val (.int ((((p1.toUInt32 >>> ((8 : Int32) &&& 31).toUInt32).toInt32) &&& (255 : Int32)).toUInt32.toUInt16.toUInt32.toInt32)), .val (.ref b1), .val (.ref b11), .unset, .unset, .unset] [(.ref b23), (.ref b21), (.ref b21)])) st31 ?_
  refine own_stW (g' := (mkF m 110 #[.val (.int p0), .val (.int p1), .val (.int ((p0 &&& (255 : Int32)).toUInt32.toUInt16.toUInt32.toInt32)), .val (.int ((((p0.toUInt32 >>> ((8 : Int32) &&& 31).toUInt32).toInt32) &&& (255 : Int32)).toUInt32.toUInt16.toUInt32.toInt32)), .val (.int ((p1 &&& (255 : Int32)).toUInt32.toUInt16.toUInt32.toInt32)), .val (.int ((((p1.toUInt32 >>> ((8 : Int32) &&& 31).toUInt32).toInt32) &&& (255 : Int32)).toUInt32.toUInt16.toUInt32.toInt32)), .val (.ref b1), .val (.ref b11), .unset, .unset, .unset] [(.int (111 : Int32)), (.int (4 : Int32)), (.ref b23), (.ref b23), (.ref b21), (.ref b21)])) (fun _ q => XS.dup X31.here hx rfl (hb hby at_106) rfl rfl (XS.iconst X31.here hx rfl (hb hby at_107) (XS.bipush X31.here hx rfl (hb hby at_108) (q)))) ?_
  obtain ⟨T33, h33, X33, e33, V33, W33, st33⟩ := own_cast X31 hx w32.2.1 e31 V31 (j := (4 : Int32)) (x := (111 : Int32)) ⟨by decide, by decide⟩ 4 rfl (Nat.le_of_ble_eq_true rfl) (pc := 110) (Ls := #[.val (.int p0), .val (.int p1), .val (.int ((p0 &&& (255 : Int32)).toUInt32.toUInt16.toUInt32.toInt32)), .val (.int ((((p0.toUInt32 >>> ((8 : Int32) &&& 31).toUInt32).toInt32) &&& (255 : Int32)).toUInt32.toUInt16.toUInt32.toInt32)), .val (.int ((p1 &&& (255 : Int32)).toUInt32.toUInt16.toUInt32.toInt32)), .val (.int ((((p1.toUInt32 >>> ((8 : Int32) &&& 31).toUInt32).toInt32) &&& (255 : Int32)).toUInt32.toUInt16.toUInt32.toInt32)), .val (.ref b1), .val (.ref b11), .unset, .unset, .unset]) (rest := [(.ref b23), (.ref b21), (.ref b21)]) (hb hby at_110)
  replace V33 : Arv Z h33 b23 k23 .char (18 : Int32) [(.int (99 : Int32)), (.int (97 : Int32)), (.int (110 : Int32)), (.int (110 : Int32)), (.int (111 : Int32)), (.int (0 : Int32)), (.int (0 : Int32)), (.int (0 : Int32)), (.int (0 : Int32)), (.int (0 : Int32)), (.int (0 : Int32)), (.int (0 : Int32)), (.int (0 : Int32)), (.int (0 : Int32)), (.int (0 : Int32)), (.int (0 : Int32)), (.int (0 : Int32)), (.int (0 : Int32))] (.int (0 : Int32)) := V33
  have N33 := Fr.snoc X33 N31 (Nat.le_trans (Nat.le_trans Z0 (Nat.le_trans (Nat.le_trans (Nat.le_trans (Nat.le_trans (Nat.le_trans (Nat.le_trans (Nat.le_trans (Nat.le_trans (Nat.le_trans (Nat.le_trans E1.1 E3.1) (Keep.of_wr W5).1) (Keep.of_wr W7).1) K9.1) E11.1) E13.1) (Keep.of_wr W15).1) (Keep.of_wr W17).1) K19.1) E21.1)) (Nat.le_of_eq g23.symm))
  have qsw34 : Safe Z own_EL s.vm h31 b23 := (Safe.arv w32.2.1.alike V31 (by simp))
  have w34 := w32.wr W33 qsw34
  refine own_stW (g' := (mkF m 111 #[.val (.int p0), .val (.int p1), .val (.int ((p0 &&& (255 : Int32)).toUInt32.toUInt16.toUInt32.toInt32)), .val (.int ((((p0.toUInt32 >>> ((8 : Int32) &&& 31).toUInt32).toInt32) &&& (255 : Int32)).toUInt32.toUInt16.toUInt32.toInt32)), .val (.int ((p1 &&& (255 : Int32)).toUInt32.toUInt16.toUInt32.toInt32)), .val (.int ((((p1.toUInt32 >>> ((8 : Int32) &&& 31).toUInt32).toInt32) &&& (255 : Int32)).toUInt32.toUInt16.toUInt32.toInt32)), .val (.ref b1), .val (.ref b11), .unset, .unset, .unset] [(.ref b23), (.ref b21), (.ref b21)])) st33 ?_
  refine own_stW (g' := (mkF m 115 #[.val (.int p0), .val (.int p1), .val (.int ((p0 &&& (255 : Int32)).toUInt32.toUInt16.toUInt32.toInt32)), .val (.int ((((p0.toUInt32 >>> ((8 : Int32) &&& 31).toUInt32).toInt32) &&& (255 : Int32)).toUInt32.toUInt16.toUInt32.toInt32)), .val (.int ((p1 &&& (255 : Int32)).toUInt32.toUInt16.toUInt32.toInt32)), .val (.int ((((p1.toUInt32 >>> ((8 : Int32) &&& 31).toUInt32).toInt32) &&& (255 : Int32)).toUInt32.toUInt16.toUInt32.toInt32)), .val (.ref b1), .val (.ref b11), .unset, .unset, .unset] [(.int (116 : Int32)), (.int (5 : Int32)), (.ref b23), (.ref b23), (.ref b21), (.ref b21)])) (fun _ q => XS.dup X33.here hx rfl (hb hby at_111) rfl rfl (XS.iconst X33.here hx rfl (hb hby at_112) (XS.bipush X33.here hx rfl (hb hby at_113) (q)))) ?_
  obtain ⟨T35, h35, X35, e35, V35, W35, st35⟩ := own_cast X33 hx w34.2.1 e33 V33 (j := (5 : Int32)) (x := (116 : Int32)) ⟨by decide, by decide⟩ 5 rfl (Nat.le_of_ble_eq_true rfl) (pc := 115) (Ls := #[.val (.int p0), .val (.int p1), .val (.int ((p0 &&& (255 : Int32)).toUInt32.toUInt16.toUInt32.toInt32)), .val (.int ((((p0.toUInt32 >>> ((8 : Int32) &&& 31).toUInt32).toInt32) &&& (255 : Int32)).toUInt32.toUInt16.toUInt32.toInt32)), .val (.int ((p1 &&& (255 : Int32)).toUInt32.toUInt16.toUInt32.toInt32)), .val (.int ((((p1.toUInt32 >>> ((8 : Int32) &&& 31).toUInt32).toInt32) &&& (255 : Int32)).toUInt32.toUInt16.toUInt32.toInt32)), .val (.ref b1), .val (.ref b11), .unset, .unset, .unset]) (rest := [(.ref b23), (.ref b21), (.ref b21)]) (hb hby at_115)
  replace V35 : Arv Z h35 b23 k23 .char (18 : Int32) [(.int (99 : Int32)), (.int (97 : Int32)), (.int (110 : Int32)), (.int (110 : Int32)), (.int (111 : Int32)), (.int (116 : Int32)), (.int (0 : Int32)), (.int (0 : Int32)), (.int (0 : Int32)), (.int (0 : Int32)), (.int (0 : Int32)), (.int (0 : Int32)), (.int (0 : Int32)), (.int (0 : Int32)), (.int (0 : Int32)), (.int (0 : Int32)), (.int (0 : Int32)), (.int (0 : Int32))] (.int (0 : Int32)) := V35
  have N35 := Fr.snoc X35 N33 (Nat.le_trans (Nat.le_trans Z0 (Nat.le_trans (Nat.le_trans (Nat.le_trans (Nat.le_trans (Nat.le_trans (Nat.le_trans (Nat.le_trans (Nat.le_trans (Nat.le_trans (Nat.le_trans E1.1 E3.1) (Keep.of_wr W5).1) (Keep.of_wr W7).1) K9.1) E11.1) E13.1) (Keep.of_wr W15).1) (Keep.of_wr W17).1) K19.1) E21.1)) (Nat.le_of_eq g23.symm))
  have qsw36 : Safe Z own_EL s.vm h33 b23 := (Safe.arv w34.2.1.alike V33 (by simp))
  have w36 := w34.wr W35 qsw36
  refine own_stW (g' := (mkF m 116 #[.val (.int p0), .val (.int p1), .val (.int ((p0 &&& (255 : Int32)).toUInt32.toUInt16.toUInt32.toInt32)), .val (.int ((((p0.toUInt32 >>> ((8 : Int32) &&& 31).toUInt32).toInt32) &&& (255 : Int32)).toUInt32.toUInt16.toUInt32.toInt32)), .val (.int ((p1 &&& (255 : Int32)).toUInt32.toUInt16.toUInt32.toInt32)), .val (.int ((((p1.toUInt32 >>> ((8 : Int32) &&& 31).toUInt32).toInt32) &&& (255 : Int32)).toUInt32.toUInt16.toUInt32.toInt32)), .val (.ref b1), .val (.ref b11), .unset, .unset, .unset] [(.ref b23), (.ref b21), (.ref b21)])) st35 ?_
  refine own_stW (g' := (mkF m 121 #[.val (.int p0), .val (.int p1), .val (.int ((p0 &&& (255 : Int32)).toUInt32.toUInt16.toUInt32.toInt32)), .val (.int ((((p0.toUInt32 >>> ((8 : Int32) &&& 31).toUInt32).toInt32) &&& (255 : Int32)).toUInt32.toUInt16.toUInt32.toInt32)), .val (.int ((p1 &&& (255 : Int32)).toUInt32.toUInt16.toUInt32.toInt32)), .val (.int ((((p1.toUInt32 >>> ((8 : Int32) &&& 31).toUInt32).toInt32) &&& (255 : Int32)).toUInt32.toUInt16.toUInt32.toInt32)), .val (.ref b1), .val (.ref b11), .unset, .unset, .unset] [(.int (32 : Int32)), (.int (6 : Int32)), (.ref b23), (.ref b23), (.ref b21), (.ref b21)])) (fun _ q => XS.dup X35.here hx rfl (hb hby at_116) rfl rfl (XS.bipush X35.here hx rfl (hb hby at_117) (XS.bipush X35.here hx rfl (hb hby at_119) (q)))) ?_
  obtain ⟨T37, h37, X37, e37, V37, W37, st37⟩ := own_cast X35 hx w36.2.1 e35 V35 (j := (6 : Int32)) (x := (32 : Int32)) ⟨by decide, by decide⟩ 6 rfl (Nat.le_of_ble_eq_true rfl) (pc := 121) (Ls := #[.val (.int p0), .val (.int p1), .val (.int ((p0 &&& (255 : Int32)).toUInt32.toUInt16.toUInt32.toInt32)), .val (.int ((((p0.toUInt32 >>> ((8 : Int32) &&& 31).toUInt32).toInt32) &&& (255 : Int32)).toUInt32.toUInt16.toUInt32.toInt32)), .val (.int ((p1 &&& (255 : Int32)).toUInt32.toUInt16.toUInt32.toInt32)), .val (.int ((((p1.toUInt32 >>> ((8 : Int32) &&& 31).toUInt32).toInt32) &&& (255 : Int32)).toUInt32.toUInt16.toUInt32.toInt32)), .val (.ref b1), .val (.ref b11), .unset, .unset, .unset]) (rest := [(.ref b23), (.ref b21), (.ref b21)]) (hb hby at_121)
  replace V37 : Arv Z h37 b23 k23 .char (18 : Int32) [(.int (99 : Int32)), (.int (97 : Int32)), (.int (110 : Int32)), (.int (110 : Int32)), (.int (111 : Int32)), (.int (116 : Int32)), (.int (32 : Int32)), (.int (0 : Int32)), (.int (0 : Int32)), (.int (0 : Int32)), (.int (0 : Int32)), (.int (0 : Int32)), (.int (0 : Int32)), (.int (0 : Int32)), (.int (0 : Int32)), (.int (0 : Int32)), (.int (0 : Int32)), (.int (0 : Int32))] (.int (0 : Int32)) := V37
  have N37 := Fr.snoc X37 N35 (Nat.le_trans (Nat.le_trans Z0 (Nat.le_trans (Nat.le_trans (Nat.le_trans (Nat.le_trans (Nat.le_trans (Nat.le_trans (Nat.le_trans (Nat.le_trans (Nat.le_trans (Nat.le_trans E1.1 E3.1) (Keep.of_wr W5).1) (Keep.of_wr W7).1) K9.1) E11.1) E13.1) (Keep.of_wr W15).1) (Keep.of_wr W17).1) K19.1) E21.1)) (Nat.le_of_eq g23.symm))
  have qsw38 : Safe Z own_EL s.vm h35 b23 := (Safe.arv w36.2.1.alike V35 (by simp))
  have w38 := w36.wr W37 qsw38
  refine own_stW (g' := (mkF m 122 #[.val (.int p0), .val (.int p1), .val (.int ((p0 &&& (255 : Int32)).toUInt32.toUInt16.toUInt32.toInt32)), .val (.int ((((p0.toUInt32 >>> ((8 : Int32) &&& 31).toUInt32).toInt32) &&& (255 : Int32)).toUInt32.toUInt16.toUInt32.toInt32)), .val (.int ((p1 &&& (255 : Int32)).toUInt32.toUInt16.toUInt32.toInt32)), .val (.int ((((p1.toUInt32 >>> ((8 : Int32) &&& 31).toUInt32).toInt32) &&& (255 : Int32)).toUInt32.toUInt16.toUInt32.toInt32)), .val (.ref b1), .val (.ref b11), .unset, .unset, .unset] [(.ref b23), (.ref b21), (.ref b21)])) st37 ?_
  refine own_stW (g' := (mkF m 127 #[.val (.int p0), .val (.int p1), .val (.int ((p0 &&& (255 : Int32)).toUInt32.toUInt16.toUInt32.toInt32)), .val (.int ((((p0.toUInt32 >>> ((8 : Int32) &&& 31).toUInt32).toInt32) &&& (255 : Int32)).toUInt32.toUInt16.toUInt32.toInt32)), .val (.int ((p1 &&& (255 : Int32)).toUInt32.toUInt16.toUInt32.toInt32)), .val (.int ((((p1.toUInt32 >>> ((8 : Int32) &&& 31).toUInt32).toInt32) &&& (255 : Int32)).toUInt32.toUInt16.toUInt32.toInt32)), .val (.ref b1), .val (.ref b11), .unset, .unset, .unset] [(.int (114 : Int32)), (.int (7 : Int32)), (.ref b23), (.ref b23), (.ref b21), (.ref b21)])) (fun _ q => XS.dup X37.here hx rfl (hb hby at_122) rfl rfl (XS.bipush X37.here hx rfl (hb hby at_123) (XS.bipush X37.here hx rfl (hb hby at_125) (q)))) ?_
  obtain ⟨T39, h39, X39, e39, V39, W39, st39⟩ := own_cast X37 hx w38.2.1 e37 V37 (j := (7 : Int32)) (x := (114 : Int32)) ⟨by decide, by decide⟩ 7 rfl (Nat.le_of_ble_eq_true rfl) (pc := 127) (Ls := #[.val (.int p0), .val (.int p1), .val (.int ((p0 &&& (255 : Int32)).toUInt32.toUInt16.toUInt32.toInt32)), .val (.int ((((p0.toUInt32 >>> ((8 : Int32) &&& 31).toUInt32).toInt32) &&& (255 : Int32)).toUInt32.toUInt16.toUInt32.toInt32)), .val (.int ((p1 &&& (255 : Int32)).toUInt32.toUInt16.toUInt32.toInt32)), .val (.int ((((p1.toUInt32 >>> ((8 : Int32) &&& 31).toUInt32).toInt32) &&& (255 : Int32)).toUInt32.toUInt16.toUInt32.toInt32)), .val (.ref b1), .val (.ref b11), .unset, .unset, .unset]) (rest := [(.ref b23), (.ref b21), (.ref b21)]) (hb hby at_127)
  replace V39 : Arv Z h39 b23 k23 .char (18 : Int32) [(.int (99 : Int32)), (.int (97 : Int32)), (.int (110 : Int32)), (.int (110 : Int32)), (.int (111 : Int32)), (.int (116 : Int32)), (.int (32 : Int32)), (.int (114 : Int32)), (.int (0 : Int32)), (.int (0 : Int32)), (.int (0 : Int32)), (.int (0 : Int32)), (.int (0 : Int32)), (.int (0 : Int32)), (.int (0 : Int32)), (.int (0 : Int32)), (.int (0 : Int32)), (.int (0 : Int32))] (.int (0 : Int32)) := V39
  have N39 := Fr.snoc X39 N37 (Nat.le_trans (Nat.le_trans Z0 (Nat.le_trans (Nat.le_trans (Nat.le_trans (Nat.le_trans (Nat.le_trans (Nat.le_trans (Nat.le_trans (Nat.le_trans (Nat.le_trans (Nat.le_trans E1.1 E3.1) (Keep.of_wr W5).1) (Keep.of_wr W7).1) K9.1) E11.1) E13.1) (Keep.of_wr W15).1) (Keep.of_wr W17).1) K19.1) E21.1)) (Nat.le_of_eq g23.symm))
  have qsw40 : Safe Z own_EL s.vm h37 b23 := (Safe.arv w38.2.1.alike V37 (by simp))
  have w40 := w38.wr W39 qsw40
  refine own_stW (g' := (mkF m 128 #[.val (.int p0), .val (.int p1), .val (.int ((p0 &&& (255 : Int32)).toUInt32.toUInt16.toUInt32.toInt32)), .val (.int ((((p0.toUInt32 >>> ((8 : Int32) &&& 31).toUInt32).toInt32) &&& (255 : Int32)).toUInt32.toUInt16.toUInt32.toInt32)), .val (.int ((p1 &&& (255 : Int32)).toUInt32.toUInt16.toUInt32.toInt32)), .val (.int ((((p1.toUInt32 >>> ((8 : Int32) &&& 31).toUInt32).toInt32) &&& (255 : Int32)).toUInt32.toUInt16.toUInt32.toInt32)), .val (.ref b1), .val (.ref b11), .unset, .unset, .unset] [(.ref b23), (.ref b21), (.ref b21)])) st39 ?_
  refine own_stW (g' := (mkF m 133 #[.val (.int p0), .val (.int p1), .val (.int ((p0 &&& (255 : Int32)).toUInt32.toUInt16.toUInt32.toInt32)), .val (.int ((((p0.toUInt32 >>> ((8 : Int32) &&& 31).toUInt32).toInt32) &&& (255 : Int32)).toUInt32.toUInt16.toUInt32.toInt32)), .val (.int ((p1 &&& (255 : Int32)).toUInt32.toUInt16.toUInt32.toInt32)), .val (.int ((((p1.toUInt32 >>> ((8 : Int32) &&& 31).toUInt32).toInt32) &&& (255 : Int32)).toUInt32.toUInt16.toUInt32.toInt32)), .val (.ref b1), .val (.ref b11), .unset, .unset, .unset] [(.int (101 : Int32)), (.int (8 : Int32)), (.ref b23), (.ref b23), (.ref b21), (.ref b21)])) (fun _ q => XS.dup X39.here hx rfl (hb hby at_128) rfl rfl (XS.bipush X39.here hx rfl (hb hby at_129) (XS.bipush X39.here hx rfl (hb hby at_131) (q)))) ?_
  obtain ⟨T41, h41, X41, e41, V41, W41, st41⟩ := own_cast X39 hx w40.2.1 e39 V39 (j := (8 : Int32)) (x := (101 : Int32)) ⟨by decide, by decide⟩ 8 rfl (Nat.le_of_ble_eq_true rfl) (pc := 133) (Ls := #[.val (.int p0), .val (.int p1), .val (.int ((p0 &&& (255 : Int32)).toUInt32.toUInt16.toUInt32.toInt32)), .val (.int ((((p0.toUInt32 >>> ((8 : Int32) &&& 31).toUInt32).toInt32) &&& (255 : Int32)).toUInt32.toUInt16.toUInt32.toInt32)), .val (.int ((p1 &&& (255 : Int32)).toUInt32.toUInt16.toUInt32.toInt32)), .val (.int ((((p1.toUInt32 >>> ((8 : Int32) &&& 31).toUInt32).toInt32) &&& (255 : Int32)).toUInt32.toUInt16.toUInt32.toInt32)), .val (.ref b1), .val (.ref b11), .unset, .unset, .unset]) (rest := [(.ref b23), (.ref b21), (.ref b21)]) (hb hby at_133)
  replace V41 : Arv Z h41 b23 k23 .char (18 : Int32) [(.int (99 : Int32)), (.int (97 : Int32)), (.int (110 : Int32)), (.int (110 : Int32)), (.int (111 : Int32)), (.int (116 : Int32)), (.int (32 : Int32)), (.int (114 : Int32)), (.int (101 : Int32)), (.int (0 : Int32)), (.int (0 : Int32)), (.int (0 : Int32)), (.int (0 : Int32)), (.int (0 : Int32)), (.int (0 : Int32)), (.int (0 : Int32)), (.int (0 : Int32)), (.int (0 : Int32))] (.int (0 : Int32)) := V41
  have N41 := Fr.snoc X41 N39 (Nat.le_trans (Nat.le_trans Z0 (Nat.le_trans (Nat.le_trans (Nat.le_trans (Nat.le_trans (Nat.le_trans (Nat.le_trans (Nat.le_trans (Nat.le_trans (Nat.le_trans (Nat.le_trans E1.1 E3.1) (Keep.of_wr W5).1) (Keep.of_wr W7).1) K9.1) E11.1) E13.1) (Keep.of_wr W15).1) (Keep.of_wr W17).1) K19.1) E21.1)) (Nat.le_of_eq g23.symm))
  have qsw42 : Safe Z own_EL s.vm h39 b23 := (Safe.arv w40.2.1.alike V39 (by simp))
  have w42 := w40.wr W41 qsw42
  refine own_stW (g' := (mkF m 134 #[.val (.int p0), .val (.int p1), .val (.int ((p0 &&& (255 : Int32)).toUInt32.toUInt16.toUInt32.toInt32)), .val (.int ((((p0.toUInt32 >>> ((8 : Int32) &&& 31).toUInt32).toInt32) &&& (255 : Int32)).toUInt32.toUInt16.toUInt32.toInt32)), .val (.int ((p1 &&& (255 : Int32)).toUInt32.toUInt16.toUInt32.toInt32)), .val (.int ((((p1.toUInt32 >>> ((8 : Int32) &&& 31).toUInt32).toInt32) &&& (255 : Int32)).toUInt32.toUInt16.toUInt32.toInt32)), .val (.ref b1), .val (.ref b11), .unset, .unset, .unset] [(.ref b23), (.ref b21), (.ref b21)])) st41 ?_
  refine own_stW (g' := (mkF m 139 #[.val (.int p0), .val (.int p1), .val (.int ((p0 &&& (255 : Int32)).toUInt32.toUInt16.toUInt32.toInt32)), .val (.int ((((p0.toUInt32 >>> ((8 : Int32) &&& 31).toUInt32).toInt32) &&& (255 : Int32)).toUInt32.toUInt16.toUInt32.toInt32)), .val (.int ((p1 &&& (255 : Int32)).toUInt32.toUInt16.toUInt32.toInt32)), .val (.int ((((p1.toUInt32 >>> ((8 : Int32) &&& 31).toUInt32).toInt32) &&& (255 : Int32)).toUInt32.toUInt16.toUInt32.toInt32)), .val (.ref b1), .val (.ref b11), .unset, .unset, .unset] [(.int (97 : Int32)), (.int (9 : Int32)), (.ref b23), (.ref b23), (.ref b21), (.ref b21)])) (fun _ q => XS.dup X41.here hx rfl (hb hby at_134) rfl rfl (XS.bipush X41.here hx rfl (hb hby at_135) (XS.bipush X41.here hx rfl (hb hby at_137) (q)))) ?_
  obtain ⟨T43, h43, X43, e43, V43, W43, st43⟩ := own_cast X41 hx w42.2.1 e41 V41 (j := (9 : Int32)) (x := (97 : Int32)) ⟨by decide, by decide⟩ 9 rfl (Nat.le_of_ble_eq_true rfl) (pc := 139) (Ls := #[.val (.int p0), .val (.int p1), .val (.int ((p0 &&& (255 : Int32)).toUInt32.toUInt16.toUInt32.toInt32)), .val (.int ((((p0.toUInt32 >>> ((8 : Int32) &&& 31).toUInt32).toInt32) &&& (255 : Int32)).toUInt32.toUInt16.toUInt32.toInt32)), .val (.int ((p1 &&& (255 : Int32)).toUInt32.toUInt16.toUInt32.toInt32)), .val (.int ((((p1.toUInt32 >>> ((8 : Int32) &&& 31).toUInt32).toInt32) &&& (255 : Int32)).toUInt32.toUInt16.toUInt32.toInt32)), .val (.ref b1), .val (.ref b11), .unset, .unset, .unset]) (rest := [(.ref b23), (.ref b21), (.ref b21)]) (hb hby at_139)
  replace V43 : Arv Z h43 b23 k23 .char (18 : Int32) [(.int (99 : Int32)), (.int (97 : Int32)), (.int (110 : Int32)), (.int (110 : Int32)), (.int (111 : Int32)), (.int (116 : Int32)), (.int (32 : Int32)), (.int (114 : Int32)), (.int (101 : Int32)), (.int (97 : Int32)), (.int (0 : Int32)), (.int (0 : Int32)), (.int (0 : Int32)), (.int (0 : Int32)), (.int (0 : Int32)), (.int (0 : Int32)), (.int (0 : Int32)), (.int (0 : Int32))] (.int (0 : Int32)) := V43
  have N43 := Fr.snoc X43 N41 (Nat.le_trans (Nat.le_trans Z0 (Nat.le_trans (Nat.le_trans (Nat.le_trans (Nat.le_trans (Nat.le_trans (Nat.le_trans (Nat.le_trans (Nat.le_trans (Nat.le_trans (Nat.le_trans E1.1 E3.1) (Keep.of_wr W5).1) (Keep.of_wr W7).1) K9.1) E11.1) E13.1) (Keep.of_wr W15).1) (Keep.of_wr W17).1) K19.1) E21.1)) (Nat.le_of_eq g23.symm))
  have qsw44 : Safe Z own_EL s.vm h41 b23 := (Safe.arv w42.2.1.alike V41 (by simp))
  have w44 := w42.wr W43 qsw44
  refine own_stW (g' := (mkF m 140 #[.val (.int p0), .val (.int p1), .val (.int ((p0 &&& (255 : Int32)).toUInt32.toUInt16.toUInt32.toInt32)), .val (.int ((((p0.toUInt32 >>> ((8 : Int32) &&& 31).toUInt32).toInt32) &&& (255 : Int32)).toUInt32.toUInt16.toUInt32.toInt32)), .val (.int ((p1 &&& (255 : Int32)).toUInt32.toUInt16.toUInt32.toInt32)), .val (.int ((((p1.toUInt32 >>> ((8 : Int32) &&& 31).toUInt32).toInt32) &&& (255 : Int32)).toUInt32.toUInt16.toUInt32.toInt32)), .val (.ref b1), .val (.ref b11), .unset, .unset, .unset] [(.ref b23), (.ref b21), (.ref b21)])) st43 ?_
  refine own_stW (g' := (mkF m 145 #[.val (.int p0), .val (.int p1), .val (.int ((p0 &&& (255 : Int32)).toUInt32.toUInt16.toUInt32.toInt32)), .val (.int ((((p0.toUInt32 >>> ((8 : Int32) &&& 31).toUInt32).toInt32) &&& (255 : Int32)).toUInt32.toUInt16.toUInt32.toInt32)), .val (.int ((p1 &&& (255 : Int32)).toUInt32.toUInt16.toUInt32.toInt32)), .val (.int ((((p1.toUInt32 >>> ((8 : Int32) &&& 31).toUInt32).toInt32) &&& (255 : Int32)).toUInt32.toUInt16.toUInt32.toInt32)), .val (.ref b1), .val (.ref b11), .unset, .unset, .unset] [(.int (100 : Int32)), (.int (10 : Int32)), (.ref b23), (.ref b23), (.ref b21), (.ref b21)])) (fun _ q => XS.dup X43.here hx rfl (hb hby at_140) rfl rfl (XS.bipush X43.here hx rfl (hb hby at_141) (XS.bipush X43.here hx rfl (hb hby at_143) (q)))) ?_
  obtain ⟨T45, h45, X45, e45, V45, W45, st45⟩ := own_cast X43 hx w44.2.1 e43 V43 (j := (10 : Int32)) (x := (100 : Int32)) ⟨by decide, by decide⟩ 10 rfl (Nat.le_of_ble_eq_true rfl) (pc := 145) (Ls := #[.val (.int p0), .val (.int p1), .val (.int ((p0 &&& (255 : Int32)).toUInt32.toUInt16.toUInt32.toInt32)), .val (.int ((((p0.toUInt32 >>> ((8 : Int32) &&& 31).toUInt32).toInt32) &&& (255 : Int32)).toUInt32.toUInt16.toUInt32.toInt32)), .val (.int ((p1 &&& (255 : Int32)).toUInt32.toUInt16.toUInt32.toInt32)), .val (.int ((((p1.toUInt32 >>> ((8 : Int32) &&& 31).toUInt32).toInt32) &&& (255 : Int32)).toUInt32.toUInt16.toUInt32.toInt32)), .val (.ref b1), .val (.ref b11), .unset, .unset, .unset]) (rest := [(.ref b23), (.ref b21), (.ref b21)]) (hb hby at_145)
  replace V45 : Arv Z h45 b23 k23 .char (18 : Int32) [(.int (99 : Int32)), (.int (97 : Int32)), (.int (110 : Int32)), (.int (110 : Int32)), (.int (111 : Int32)), (.int (116 : Int32)), (.int (32 : Int32)), (.int (114 : Int32)), (.int (101 : Int32)), (.int (97 : Int32)), (.int (100 : Int32)), (.int (0 : Int32)), (.int (0 : Int32)), (.int (0 : Int32)), (.int (0 : Int32)), (.int (0 : Int32)), (.int (0 : Int32)), (.int (0 : Int32))] (.int (0 : Int32)) := V45
  have N45 := Fr.snoc X45 N43 (Nat.le_trans (Nat.le_trans Z0 (Nat.le_trans (Nat.le_trans (Nat.le_trans (Nat.le_trans (Nat.le_trans (Nat.le_trans (Nat.le_trans (Nat.le_trans (Nat.le_trans (Nat.le_trans E1.1 E3.1) (Keep.of_wr W5).1) (Keep.of_wr W7).1) K9.1) E11.1) E13.1) (Keep.of_wr W15).1) (Keep.of_wr W17).1) K19.1) E21.1)) (Nat.le_of_eq g23.symm))
  have qsw46 : Safe Z own_EL s.vm h43 b23 := (Safe.arv w44.2.1.alike V43 (by simp))
  have w46 := w44.wr W45 qsw46
  refine own_stW (g' := (mkF m 146 #[.val (.int p0), .val (.int p1), .val (.int ((p0 &&& (255 : Int32)).toUInt32.toUInt16.toUInt32.toInt32)), .val (.int ((((p0.toUInt32 >>> ((8 : Int32) &&& 31).toUInt32).toInt32) &&& (255 : Int32)).toUInt32.toUInt16.toUInt32.toInt32)), .val (.int ((p1 &&& (255 : Int32)).toUInt32.toUInt16.toUInt32.toInt32)), .val (.int ((((p1.toUInt32 >>> ((8 : Int32) &&& 31).toUInt32).toInt32) &&& (255 : Int32)).toUInt32.toUInt16.toUInt32.toInt32)), .val (.ref b1), .val (.ref b11), .unset, .unset, .unset] [(.ref b23), (.ref b21), (.ref b21)])) st45 ?_
  refine own_stW (g' := (mkF m 151 #[.val (.int p0), .val (.int p1), .val (.int ((p0 &&& (255 : Int32)).toUInt32.toUInt16.toUInt32.toInt32)), .val (.int ((((p0.toUInt32 >>> ((8 : Int32) &&& 31).toUInt32).toInt32) &&& (255 : Int32)).toUInt32.toUInt16.toUInt32.toInt32)), .val (.int ((p1 &&& (255 : Int32)).toUInt32.toUInt16.toUInt32.toInt32)), .val (.int ((((p1.toUInt32 >>> ((8 : Int32) &&& 31).toUInt32).toInt32) &&& (255 : Int32)).toUInt32.toUInt16.toUInt32.toInt32)), .val (.ref b1), .val (.ref b11), .unset, .unset, .unset] [(.int (32 : Int32)), (.int (11 : Int32)), (.ref b23), (.ref b23), (.ref b21), (.ref b21)])) (fun _ q => XS.dup X45.here hx rfl (hb hby at_146) rfl rfl (XS.bipush X45.here hx rfl (hb hby at_147) (XS.bipush X45.here hx rfl (hb hby at_149) (q)))) ?_
  obtain ⟨T47, h47, X47, e47, V47, W47, st47⟩ := own_cast X45 hx w46.2.1 e45 V45 (j := (11 : Int32)) (x := (32 : Int32)) ⟨by decide, by decide⟩ 11 rfl (Nat.le_of_ble_eq_true rfl) (pc := 151) (Ls := #[.val (.int p0), .val (.int p1), .val (.int ((p0 &&& (255 : Int32)).toUInt32.toUInt16.toUInt32.toInt32)), .val (.int ((((p0.toUInt32 >>> ((8 : Int32) &&& 31).toUInt32).toInt32) &&& (255 : Int32)).toUInt32.toUInt16.toUInt32.toInt32)), .val (.int ((p1 &&& (255 : Int32)).toUInt32.toUInt16.toUInt32.toInt32)), .val (.int ((((p1.toUInt32 >>> ((8 : Int32) &&& 31).toUInt32).toInt32) &&& (255 : Int32)).toUInt32.toUInt16.toUInt32.toInt32)), .val (.ref b1), .val (.ref b11), .unset, .unset, .unset]) (rest := [(.ref b23), (.ref b21), (.ref b21)]) (hb hby at_151)
  replace V47 : Arv Z h47 b23 k23 .char (18 : Int32) [(.int (99 : Int32)), (.int (97 : Int32)), (.int (110 : Int32)), (.int (110 : Int32)), (.int (111 : Int32)), (.int (116 : Int32)), (.int (32 : Int32)), (.int (114 : Int32)), (.int (101 : Int32)), (.int (97 : Int32)), (.int (100 : Int32)), (.int (32 : Int32)), (.int (0 : Int32)), (.int (0 : Int32)), (.int (0 : Int32)), (.int (0 : Int32)), (.int (0 : Int32)), (.int (0 : Int32))] (.int (0 : Int32)) := V47
  have N47 := Fr.snoc X47 N45 (Nat.le_trans (Nat.le_trans Z0 (Nat.le_trans (Nat.le_trans (Nat.le_trans (Nat.le_trans (Nat.le_trans (Nat.le_trans (Nat.le_trans (Nat.le_trans (Nat.le_trans (Nat.le_trans E1.1 E3.1) (Keep.of_wr W5).1) (Keep.of_wr W7).1) K9.1) E11.1) E13.1) (Keep.of_wr W15).1) (Keep.of_wr W17).1) K19.1) E21.1)) (Nat.le_of_eq g23.symm))
  have qsw48 : Safe Z own_EL s.vm h45 b23 := (Safe.arv w46.2.1.alike V45 (by simp))
  have w48 := w46.wr W47 qsw48
  refine own_stW (g' := (mkF m 152 #[.val (.int p0), .val (.int p1), .val (.int ((p0 &&& (255 : Int32)).toUInt32.toUInt16.toUInt32.toInt32)), .val (.int ((((p0.toUInt32 >>> ((8 : Int32) &&& 31).toUInt32).toInt32) &&& (255 : Int32)).toUInt32.toUInt16.toUInt32.toInt32)), .val (.int ((p1 &&& (255 : Int32)).toUInt32.toUInt16.toUInt32.toInt32)), .val (.int ((((p1.toUInt32 >>> ((8 : Int32) &&& 31).toUInt32).toInt32) &&& (255 : Int32)).toUInt32.toUInt16.toUInt32.toInt32)), .val (.ref b1), .val (.ref b11), .unset, .unset, .unset] [(.ref b23), (.ref b21), (.ref b21)])) st47 ?_
  refine own_stW (g' := (mkF m 156 #[.val (.int p0), .val (.int p1), .val (.int ((p0 &&& (255 : Int32)).toUInt32.toUInt16.toUInt32.toInt32)), .val (.int ((((p0.toUInt32 >>> ((8 : Int32) &&& 31).toUInt32).toInt32) &&& (255 : Int32)).toUInt32.toUInt16.toUInt32.toInt32)), .val (.int ((p1 &&& (255 : Int32)).toUInt32.toUInt16.toUInt32.toInt32)), .val (.int ((((p1.toUInt32 >>> ((8 : Int32) &&& 31).toUInt32).toInt32) &&& (255 : Int32)).toUInt32.toUInt16.toUInt32.toInt32)), .val (.ref b1), .val (.ref b11), .unset, .unset, .unset] [(.int ((p0 &&& (255 : Int32)).toUInt32.toUInt16.toUInt32.toInt32)), (.int (12 : Int32)), (.ref b23), (.ref b23), (.ref b21), (.ref b21)])) (fun _ q => XS.dup X47.here hx rfl (hb hby at_152) rfl rfl (XS.bipush X47.here hx rfl (hb hby at_153) (XS.iloadN X47.here hx rfl (hb hby at_155) rfl (q)))) ?_
  obtain ⟨T49, h49, X49, e49, V49, W49, st49⟩ := own_cast X47 hx w48.2.1 e47 V47 (j := (12 : Int32)) (x := ((p0 &&& (255 : Int32)).toUInt32.toUInt16.toUInt32.toInt32)) ⟨by decide, by decide⟩ 12 rfl (Nat.le_of_ble_eq_true rfl) (pc := 156) (Ls := #[.val (.int p0), .val (.int p1), .val (.int ((p0 &&& (255 : Int32)).toUInt32.toUInt16.toUInt32.toInt32)), .val (.int ((((p0.toUInt32 >>> ((8 : Int32) &&& 31).toUInt32).toInt32) &&& (255 : Int32)).toUInt32.toUInt16.toUInt32.toInt32)), .val (.int ((p1 &&& (255 : Int32)).toUInt32.toUInt16.toUInt32.toInt32)), .val (.int ((((p1.toUInt32 >>> ((8 : Int32) &&& 31).toUInt32).toInt32) &&& (255 : Int32)).toUInt32.toUInt16.toUInt32.toInt32)), .val (.ref b1), .val (.ref b11), .unset, .unset, .unset]) (rest := [(.ref b23), (.ref b21), (.ref b21)]) (hb hby at_156)
  replace V49 : Arv Z h49 b23 k23 .char (18 : Int32) [(.int (99 : Int32)), (.int (97 : Int32)), (.int (110 : Int32)), (.int (110 : Int32)), (.int (111 : Int32)), (.int (116 : Int32)), (.int (32 : Int32)), (.int (114 : Int32)), (.int (101 : Int32)), (.int (97 : Int32)), (.int (100 : Int32)), (.int (32 : Int32)), (.int c0), (.int (0 : Int32)), (.int (0 : Int32)), (.int (0 : Int32)), (.int (0 : Int32)), (.int (0 : Int32))] (.int (0 : Int32)) := by rw [q0]; exact V49
  have N49 := Fr.snoc X49 N47 (Nat.le_trans (Nat.le_trans Z0 (Nat.le_trans (Nat.le_trans (Nat.le_trans (Nat.le_trans (Nat.le_trans (Nat.le_trans (Nat.le_trans (Nat.le_trans (Nat.le_trans (Nat.le_trans E1.1 E3.1) (Keep.of_wr W5).1) (Keep.of_wr W7).1) K9.1) E11.1) E13.1) (Keep.of_wr W15).1) (Keep.of_wr W17).1) K19.1) E21.1)) (Nat.le_of_eq g23.symm))
  have qsw50 : Safe Z own_EL s.vm h47 b23 := (Safe.arv w48.2.1.alike V47 (by simp))
  have w50 := w48.wr W49 qsw50
  refine own_stW (g' := (mkF m 157 #[.val (.int p0), .val (.int p1), .val (.int ((p0 &&& (255 : Int32)).toUInt32.toUInt16.toUInt32.toInt32)), .val (.int ((((p0.toUInt32 >>> ((8 : Int32) &&& 31).toUInt32).toInt32) &&& (255 : Int32)).toUInt32.toUInt16.toUInt32.toInt32)), .val (.int ((p1 &&& (255 : Int32)).toUInt32.toUInt16.toUInt32.toInt32)), .val (.int ((((p1.toUInt32 >>> ((8 : Int32) &&& 31).toUInt32).toInt32) &&& (255 : Int32)).toUInt32.toUInt16.toUInt32.toInt32)), .val (.ref b1), .val (.ref b11), .unset, .unset, .unset] [(.ref b23), (.ref b21), (.ref b21)])) st49 ?_
  refine own_stW (g' := (mkF m 161 #[.val (.int p0), .val (.int p1), .val (.int ((p0 &&& (255 : Int32)).toUInt32.toUInt16.toUInt32.toInt32)), .val (.int ((((p0.toUInt32 >>> ((8 : Int32) &&& 31).toUInt32).toInt32) &&& (255 : Int32)).toUInt32.toUInt16.toUInt32.toInt32)), .val (.int ((p1 &&& (255 : Int32)).toUInt32.toUInt16.toUInt32.toInt32)), .val (.int ((((p1.toUInt32 >>> ((8 : Int32) &&& 31).toUInt32).toInt32) &&& (255 : Int32)).toUInt32.toUInt16.toUInt32.toInt32)), .val (.ref b1), .val (.ref b11), .unset, .unset, .unset] [(.int ((((p0.toUInt32 >>> ((8 : Int32) &&& 31).toUInt32).toInt32) &&& (255 : Int32)).toUInt32.toUInt16.toUInt32.toInt32)), (.int (13 : Int32)), (.ref b23), (.ref b23), (.ref b21), (.ref b21)])) (fun _ q => XS.dup X49.here hx rfl (hb hby at_157) rfl rfl (XS.bipush X49.here hx rfl (hb hby at_158) (XS.iloadN X49.here hx rfl (hb hby at_160) rfl (q)))) ?_
  obtain ⟨T51, h51, X51, e51, V51, W51, st51⟩ := own_cast X49 hx w50.2.1 e49 V49 (j := (13 : Int32)) (x := ((((p0.toUInt32 >>> ((8 : Int32) &&& 31).toUInt32).toInt32) &&& (255 : Int32)).toUInt32.toUInt16.toUInt32.toInt32)) ⟨by decide, by decide⟩ 13 rfl (Nat.le_of_ble_eq_true rfl) (pc := 161) (Ls := #[.val (.int p0), .val (.int p1), .val (.int ((p0 &&& (255 : Int32)).toUInt32.toUInt16.toUInt32.toInt32)), .val (.int ((((p0.toUInt32 >>> ((8 : Int32) &&& 31).toUInt32).toInt32) &&& (255 : Int32)).toUInt32.toUInt16.toUInt32.toInt32)), .val (.int ((p1 &&& (255 : Int32)).toUInt32.toUInt16.toUInt32.toInt32)), .val (.int ((((p1.toUInt32 >>> ((8 : Int32) &&& 31).toUInt32).toInt32) &&& (255 : Int32)).toUInt32.toUInt16.toUInt32.toInt32)), .val (.ref b1), .val (.ref b11), .unset, .unset, .unset]) (rest := [(.ref b23), (.ref b21), (.ref b21)]) (hb hby at_161)
  replace V51 : Arv Z h51 b23 k23 .char (18 : Int32) [(.int (99 : Int32)), (.int (97 : Int32)), (.int (110 : Int32)), (.int (110 : Int32)), (.int (111 : Int32)), (.int (116 : Int32)), (.int (32 : Int32)), (.int (114 : Int32)), (.int (101 : Int32)), (.int (97 : Int32)), (.int (100 : Int32)), (.int (32 : Int32)), (.int c0), (.int c1), (.int (0 : Int32)), (.int (0 : Int32)), (.int (0 : Int32)), (.int (0 : Int32))] (.int (0 : Int32)) := by rw [q1]; exact V51
  have N51 := Fr.snoc X51 N49 (Nat.le_trans (Nat.le_trans Z0 (Nat.le_trans (Nat.le_trans (Nat.le_trans (Nat.le_trans (Nat.le_trans (Nat.le_trans (Nat.le_trans (Nat.le_trans (Nat.le_trans (Nat.le_trans E1.1 E3.1) (Keep.of_wr W5).1) (Keep.of_wr W7).1) K9.1) E11.1) E13.1) (Keep.of_wr W15).1) (Keep.of_wr W17).1) K19.1) E21.1)) (Nat.le_of_eq g23.symm))
  have qsw52 : Safe Z own_EL s.vm h49 b23 := (Safe.arv w50.2.1.alike V49 (by simp))
  have w52 := w50.wr W51 qsw52
  refine own_stW (g' := (mkF m 162 #[.val (.int p0), .val (.int p1), .val (.int ((p0 &&& (255 : Int32)).toUInt32.toUInt16.toUInt32.toInt32)), .val (.int ((((p0.toUInt32 >>> ((8 : Int32) &&& 31).toUInt32).toInt32) &&& (255 : Int32)).toUInt32.toUInt16.toUInt32.toInt32)), .val (.int ((p1 &&& (255 : Int32)).toUInt32.toUInt16.toUInt32.toInt32)), .val (.int ((((p1.toUInt32 >>> ((8 : Int32) &&& 31).toUInt32).toInt32) &&& (255 : Int32)).toUInt32.toUInt16.toUInt32.toInt32)), .val (.ref b1), .val (.ref b11), .unset, .unset, .unset] [(.ref b23), (.ref b21), (.ref b21)])) st51 ?_
  refine own_stW (g' := (mkF m 167 #[.val (.int p0), .val (.int p1), .val (.int ((p0 &&& (255 : Int32)).toUInt32.toUInt16.toUInt32.toInt32)), .val (.int ((((p0.toUInt32 >>> ((8 : Int32) &&& 31).toUInt32).toInt32) &&& (255 : Int32)).toUInt32.toUInt16.toUInt32.toInt32)), .val (.int ((p1 &&& (255 : Int32)).toUInt32.toUInt16.toUInt32.toInt32)), .val (.int ((((p1.toUInt32 >>> ((8 : Int32) &&& 31).toUInt32).toInt32) &&& (255 : Int32)).toUInt32.toUInt16.toUInt32.toInt32)), .val (.ref b1), .val (.ref b11), .unset, .unset, .unset] [(.int (58 : Int32)), (.int (14 : Int32)), (.ref b23), (.ref b23), (.ref b21), (.ref b21)])) (fun _ q => XS.dup X51.here hx rfl (hb hby at_162) rfl rfl (XS.bipush X51.here hx rfl (hb hby at_163) (XS.bipush X51.here hx rfl (hb hby at_165) (q)))) ?_
  obtain ⟨T53, h53, X53, e53, V53, W53, st53⟩ := own_cast X51 hx w52.2.1 e51 V51 (j := (14 : Int32)) (x := (58 : Int32)) ⟨by decide, by decide⟩ 14 rfl (Nat.le_of_ble_eq_true rfl) (pc := 167) (Ls := #[.val (.int p0), .val (.int p1), .val (.int ((p0 &&& (255 : Int32)).toUInt32.toUInt16.toUInt32.toInt32)), .val (.int ((((p0.toUInt32 >>> ((8 : Int32) &&& 31).toUInt32).toInt32) &&& (255 : Int32)).toUInt32.toUInt16.toUInt32.toInt32)), .val (.int ((p1 &&& (255 : Int32)).toUInt32.toUInt16.toUInt32.toInt32)), .val (.int ((((p1.toUInt32 >>> ((8 : Int32) &&& 31).toUInt32).toInt32) &&& (255 : Int32)).toUInt32.toUInt16.toUInt32.toInt32)), .val (.ref b1), .val (.ref b11), .unset, .unset, .unset]) (rest := [(.ref b23), (.ref b21), (.ref b21)]) (hb hby at_167)
  replace V53 : Arv Z h53 b23 k23 .char (18 : Int32) [(.int (99 : Int32)), (.int (97 : Int32)), (.int (110 : Int32)), (.int (110 : Int32)), (.int (111 : Int32)), (.int (116 : Int32)), (.int (32 : Int32)), (.int (114 : Int32)), (.int (101 : Int32)), (.int (97 : Int32)), (.int (100 : Int32)), (.int (32 : Int32)), (.int c0), (.int c1), (.int (58 : Int32)), (.int (0 : Int32)), (.int (0 : Int32)), (.int (0 : Int32))] (.int (0 : Int32)) := V53
  have N53 := Fr.snoc X53 N51 (Nat.le_trans (Nat.le_trans Z0 (Nat.le_trans (Nat.le_trans (Nat.le_trans (Nat.le_trans (Nat.le_trans (Nat.le_trans (Nat.le_trans (Nat.le_trans (Nat.le_trans (Nat.le_trans E1.1 E3.1) (Keep.of_wr W5).1) (Keep.of_wr W7).1) K9.1) E11.1) E13.1) (Keep.of_wr W15).1) (Keep.of_wr W17).1) K19.1) E21.1)) (Nat.le_of_eq g23.symm))
  have qsw54 : Safe Z own_EL s.vm h51 b23 := (Safe.arv w52.2.1.alike V51 (by simp))
  have w54 := w52.wr W53 qsw54
  refine own_stW (g' := (mkF m 168 #[.val (.int p0), .val (.int p1), .val (.int ((p0 &&& (255 : Int32)).toUInt32.toUInt16.toUInt32.toInt32)), .val (.int ((((p0.toUInt32 >>> ((8 : Int32) &&& 31).toUInt32).toInt32) &&& (255 : Int32)).toUInt32.toUInt16.toUInt32.toInt32)), .val (.int ((p1 &&& (255 : Int32)).toUInt32.toUInt16.toUInt32.toInt32)), .val (.int ((((p1.toUInt32 >>> ((8 : Int32) &&& 31).toUInt32).toInt32) &&& (255 : Int32)).toUInt32.toUInt16.toUInt32.toInt32)), .val (.ref b1), .val (.ref b11), .unset, .unset, .unset] [(.ref b23), (.ref b21), (.ref b21)])) st53 ?_
  refine own_stW (g' := (mkF m 173 #[.val (.int p0), .val (.int p1), .val (.int ((p0 &&& (255 : Int32)).toUInt32.toUInt16.toUInt32.toInt32)), .val (.int ((((p0.toUInt32 >>> ((8 : Int32) &&& 31).toUInt32).toInt32) &&& (255 : Int32)).toUInt32.toUInt16.toUInt32.toInt32)), .val (.int ((p1 &&& (255 : Int32)).toUInt32.toUInt16.toUInt32.toInt32)), .val (.int ((((p1.toUInt32 >>> ((8 : Int32) &&& 31).toUInt32).toInt32) &&& (255 : Int32)).toUInt32.toUInt16.toUInt32.toInt32)), .val (.ref b1), .val (.ref b11), .unset, .unset, .unset] [(.int (32 : Int32)), (.int (15 : Int32)), (.ref b23), (.ref b23), (.ref b21), (.ref b21)])) (fun _ q => XS.dup X53.here hx rfl (hb hby at_168) rfl rfl (XS.bipush X53.here hx rfl (hb hby at_169) (XS.bipush X53.here hx rfl (hb hby at_171) (q)))) ?_
  obtain ⟨T55, h55, X55, e55, V55, W55, st55⟩ := own_cast X53 hx w54.2.1 e53 V53 (j := (15 : Int32)) (x := (32 : Int32)) ⟨by decide, by decide⟩ 15 rfl (Nat.le_of_ble_eq_true rfl) (pc := 173) (Ls := #[.val (.int p0), .val (.int p1), .val (.int ((p0 &&& (255 : Int32)).toUInt32.toUInt16.toUInt32.toInt32)), .val (.int ((((p0.toUInt32 >>> ((8 : Int32) &&& 31).toUInt32).toInt32) &&& (255 : Int32)).toUInt32.toUInt16.toUInt32.toInt32)), .val (.int ((p1 &&& (255 : Int32)).toUInt32.toUInt16.toUInt32.toInt32)), .val (.int ((((p1.toUInt32 >>> ((8 : Int32) &&& 31).toUInt32).toInt32) &&& (255 : Int32)).toUInt32.toUInt16.toUInt32.toInt32)), .val (.ref b1), .val (.ref b11), .unset, .unset, .unset]) (rest := [(.ref b23), (.ref b21), (.ref b21)]) (hb hby at_173)
  replace V55 : Arv Z h55 b23 k23 .char (18 : Int32) [(.int (99 : Int32)), (.int (97 : Int32)), (.int (110 : Int32)), (.int (110 : Int32)), (.int (111 : Int32)), (.int (116 : Int32)), (.int (32 : Int32)), (.int (114 : Int32)), (.int (101 : Int32)), (.int (97 : Int32)), (.int (100 : Int32)), (.int (32 : Int32)), (.int c0), (.int c1), (.int (58 : Int32)), (.int (32 : Int32)), (.int (0 : Int32)), (.int (0 : Int32))] (.int (0 : Int32)) := V55
  have N55 := Fr.snoc X55 N53 (Nat.le_trans (Nat.le_trans Z0 (Nat.le_trans (Nat.le_trans (Nat.le_trans (Nat.le_trans (Nat.le_trans (Nat.le_trans (Nat.le_trans (Nat.le_trans (Nat.le_trans (Nat.le_trans E1.1 E3.1) (Keep.of_wr W5).1) (Keep.of_wr W7).1) K9.1) E11.1) E13.1) (Keep.of_wr W15).1) (Keep.of_wr W17).1) K19.1) E21.1)) (Nat.le_of_eq g23.symm))
  have qsw56 : Safe Z own_EL s.vm h53 b23 := (Safe.arv w54.2.1.alike V53 (by simp))
  have w56 := w54.wr W55 qsw56
  refine own_stW (g' := (mkF m 174 #[.val (.int p0), .val (.int p1), .val (.int ((p0 &&& (255 : Int32)).toUInt32.toUInt16.toUInt32.toInt32)), .val (.int ((((p0.toUInt32 >>> ((8 : Int32) &&& 31).toUInt32).toInt32) &&& (255 : Int32)).toUInt32.toUInt16.toUInt32.toInt32)), .val (.int ((p1 &&& (255 : Int32)).toUInt32.toUInt16.toUInt32.toInt32)), .val (.int ((((p1.toUInt32 >>> ((8 : Int32) &&& 31).toUInt32).toInt32) &&& (255 : Int32)).toUInt32.toUInt16.toUInt32.toInt32)), .val (.ref b1), .val (.ref b11), .unset, .unset, .unset] [(.ref b23), (.ref b21), (.ref b21)])) st55 ?_
  refine own_stW (g' := (mkF m 179 #[.val (.int p0), .val (.int p1), .val (.int ((p0 &&& (255 : Int32)).toUInt32.toUInt16.toUInt32.toInt32)), .val (.int ((((p0.toUInt32 >>> ((8 : Int32) &&& 31).toUInt32).toInt32) &&& (255 : Int32)).toUInt32.toUInt16.toUInt32.toInt32)), .val (.int ((p1 &&& (255 : Int32)).toUInt32.toUInt16.toUInt32.toInt32)), .val (.int ((((p1.toUInt32 >>> ((8 : Int32) &&& 31).toUInt32).toInt32) &&& (255 : Int32)).toUInt32.toUInt16.toUInt32.toInt32)), .val (.ref b1), .val (.ref b11), .unset, .unset, .unset] [(.int ((p1 &&& (255 : Int32)).toUInt32.toUInt16.toUInt32.toInt32)), (.int (16 : Int32)), (.ref b23), (.ref b23), (.ref b21), (.ref b21)])) (fun _ q => XS.dup X55.here hx rfl (hb hby at_174) rfl rfl (XS.bipush X55.here hx rfl (hb hby at_175) (XS.iload X55.here hx rfl (hb hby at_177) rfl (q)))) ?_
  obtain ⟨T57, h57, X57, e57, V57, W57, st57⟩ := own_cast X55 hx w56.2.1 e55 V55 (j := (16 : Int32)) (x := ((p1 &&& (255 : Int32)).toUInt32.toUInt16.toUInt32.toInt32)) ⟨by decide, by decide⟩ 16 rfl (Nat.le_of_ble_eq_true rfl) (pc := 179) (Ls := #[.val (.int p0), .val (.int p1), .val (.int ((p0 &&& (255 : Int32)).toUInt32.toUInt16.toUInt32.toInt32)), .val (.int ((((p0.toUInt32 >>> ((8 : Int32) &&& 31).toUInt32).toInt32) &&& (255 : Int32)).toUInt32.toUInt16.toUInt32.toInt32)), .val (.int ((p1 &&& (255 : Int32)).toUInt32.toUInt16.toUInt32.toInt32)), .val (.int ((((p1.toUInt32 >>> ((8 : Int32) &&& 31).toUInt32).toInt32) &&& (255 : Int32)).toUInt32.toUInt16.toUInt32.toInt32)), .val (.ref b1), .val (.ref b11), .unset, .unset, .unset]) (rest := [(.ref b23), (.ref b21), (.ref b21)]) (hb hby at_179)
  replace V57 : Arv Z h57 b23 k23 .char (18 : Int32) [(.int (99 : Int32)), (.int (97 : Int32)), (.int (110 : Int32)), (.int (110 : Int32)), (.int (111 : Int32)), (.int (116 : Int32)), (.int (32 : Int32)), (.int (114 : Int32)), (.int (101 : Int32)), (.int (97 : Int32)), (.int (100 : Int32)), (.int (32 : Int32)), (.int c0), (.int c1), (.int (58 : Int32)), (.int (32 : Int32)), (.int c2), (.int (0 : Int32))] (.int (0 : Int32)) := by rw [q2]; exact V57
  have N57 := Fr.snoc X57 N55 (Nat.le_trans (Nat.le_trans Z0 (Nat.le_trans (Nat.le_trans (Nat.le_trans (Nat.le_trans (Nat.le_trans (Nat.le_trans (Nat.le_trans (Nat.le_trans (Nat.le_trans (Nat.le_trans E1.1 E3.1) (Keep.of_wr W5).1) (Keep.of_wr W7).1) K9.1) E11.1) E13.1) (Keep.of_wr W15).1) (Keep.of_wr W17).1) K19.1) E21.1)) (Nat.le_of_eq g23.symm))
  have qsw58 : Safe Z own_EL s.vm h55 b23 := (Safe.arv w56.2.1.alike V55 (by simp))
  have w58 := w56.wr W57 qsw58
  refine own_stW (g' := (mkF m 180 #[.val (.int p0), .val (.int p1), .val (.int ((p0 &&& (255 : Int32)).toUInt32.toUInt16.toUInt32.toInt32)), .val (.int ((((p0.toUInt32 >>> ((8 : Int32) &&& 31).toUInt32).toInt32) &&& (255 : Int32)).toUInt32.toUInt16.toUInt32.toInt32)), .val (.int ((p1 &&& (255 : Int32)).toUInt32.toUInt16.toUInt32.toInt32)), .val (.int ((((p1.toUInt32 >>> ((8 : Int32) &&& 31).toUInt32).toInt32) &&& (255 : Int32)).toUInt32.toUInt16.toUInt32.toInt32)), .val (.ref b1), .val (.ref b11), .unset, .unset, .unset] [(.ref b23), (.ref b21), (.ref b21)])) st57 ?_
  refine own_stW (g' := (mkF m 185 #[.val (.int p0), .val (.int p1), .val (.int ((p0 &&& (255 : Int32)).toUInt32.toUInt16.toUInt32.toInt32)), .val (.int ((((p0.toUInt32 >>> ((8 : Int32) &&& 31).toUInt32).toInt32) &&& (255 : Int32)).toUInt32.toUInt16.toUInt32.toInt32)), .val (.int ((p1 &&& (255 : Int32)).toUInt32.toUInt16.toUInt32.toInt32)), .val (.int ((((p1.toUInt32 >>> ((8 : Int32) &&& 31).toUInt32).toInt32) &&& (255 : Int32)).toUInt32.toUInt16.toUInt32.toInt32)), .val (.ref b1), .val (.ref b11), .unset, .unset, .unset] [(.int ((((p1.toUInt32 >>> ((8 : Int32) &&& 31).toUInt32).toInt32) &&& (255 : Int32)).toUInt32.toUInt16.toUInt32.toInt32)), (.int (17 : Int32)), (.ref b23), (.ref b23), (.ref b21), (.ref b21)])) (fun _ q => XS.dup X57.here hx rfl (hb hby at_180) rfl rfl (XS.bipush X57.here hx rfl (hb hby at_181) (XS.iload X57.here hx rfl (hb hby at_183) rfl (q)))) ?_
  obtain ⟨T59, h59, X59, e59, V59, W59, st59⟩ := own_cast X57 hx w58.2.1 e57 V57 (j := (17 : Int32)) (x := ((((p1.toUInt32 >>> ((8 : Int32) &&& 31).toUInt32).toInt32) &&& (255 : Int32)).toUInt32.toUInt16.toUInt32.toInt32)) ⟨by decide, by decide⟩ 17 rfl (Nat.le_of_ble_eq_true rfl) (pc := 185) (Ls := #[.val (.int p0), .val (.int p1), .val (.int ((p0 &&& (255 : Int32)).toUInt32.toUInt16.toUInt32.toInt32)), .val (.int ((((p0.toUInt32 >>> ((8 : Int32) &&& 31).toUInt32).toInt32) &&& (255 : Int32)).toUInt32.toUInt16.toUInt32.toInt32)), .val (.int ((p1 &&& (255 : Int32)).toUInt32.toUInt16.toUInt32.toInt32)), .val (.int ((((p1.toUInt32 >>> ((8 : Int32) &&& 31).toUInt32).toInt32) &&& (255 : Int32)).toUInt32.toUInt16.toUInt32.toInt32)), .val (.ref b1), .val (.ref b11), .unset, .unset, .unset]) (rest := [(.ref b23), (.ref b21), (.ref b21)]) (hb hby at_185)
  replace V59 : Arv Z h59 b23 k23 .char (18 : Int32) [(.int (99 : Int32)), (.int (97 : Int32)), (.int (110 : Int32)), (.int (110 : Int32)), (.int (111 : Int32)), (.int (116 : Int32)), (.int (32 : Int32)), (.int (114 : Int32)), (.int (101 : Int32)), (.int (97 : Int32)), (.int (100 : Int32)), (.int (32 : Int32)), (.int c0), (.int c1), (.int (58 : Int32)), (.int (32 : Int32)), (.int c2), (.int c3)] (.int (0 : Int32)) := by rw [q3]; exact V59
  have N59 := Fr.snoc X59 N57 (Nat.le_trans (Nat.le_trans Z0 (Nat.le_trans (Nat.le_trans (Nat.le_trans (Nat.le_trans (Nat.le_trans (Nat.le_trans (Nat.le_trans (Nat.le_trans (Nat.le_trans (Nat.le_trans E1.1 E3.1) (Keep.of_wr W5).1) (Keep.of_wr W7).1) K9.1) E11.1) E13.1) (Keep.of_wr W15).1) (Keep.of_wr W17).1) K19.1) E21.1)) (Nat.le_of_eq g23.symm))
  have qsw60 : Safe Z own_EL s.vm h57 b23 := (Safe.arv w58.2.1.alike V57 (by simp))
  have w60 := w58.wr W59 qsw60
  refine own_stW (g' := (mkF m 186 #[.val (.int p0), .val (.int p1), .val (.int ((p0 &&& (255 : Int32)).toUInt32.toUInt16.toUInt32.toInt32)), .val (.int ((((p0.toUInt32 >>> ((8 : Int32) &&& 31).toUInt32).toInt32) &&& (255 : Int32)).toUInt32.toUInt16.toUInt32.toInt32)), .val (.int ((p1 &&& (255 : Int32)).toUInt32.toUInt16.toUInt32.toInt32)), .val (.int ((((p1.toUInt32 >>> ((8 : Int32) &&& 31).toUInt32).toInt32) &&& (255 : Int32)).toUInt32.toUInt16.toUInt32.toInt32)), .val (.ref b1), .val (.ref b11), .unset, .unset, .unset] [(.ref b23), (.ref b21), (.ref b21)])) st59 ?_
  obtain ⟨_, L61, T61, X61, ⟨rfl, N61q, K61, E61, C61, t61, kb61, u61, v61, w61, F61, A61⟩, st61⟩ := own_cI X59 hx w60.2.1 rfl w60.2.2.1 (hw _ (List.mem_of_getElem? (i := 4) rfl)) (hw _ (List.mem_of_getElem? (i := 5) rfl)) (hw _ (List.mem_of_getElem? (i := 6) rfl)) (by decide) e59 (h := h59) (b := b21) (argsL := [(.ref b23)]) (rest := [(.ref b21)]) (StrChars.Road.backV (s := (s.setVm s.vm)) (W := 1) w60.2.1 hws (kI := 4) (hw _ (List.mem_of_getElem? (i := 1) rfl)) (cs := ([(99 : Int32), (97 : Int32), (110 : Int32), (110 : Int32), (111 : Int32), (116 : Int32), (32 : Int32), (114 : Int32), (101 : Int32), (97 : Int32), (100 : Int32), (32 : Int32), c0, c1, (58 : Int32), (32 : Int32), c2, c3] : List Int32)) (bs := (([(99 : Int32), (97 : Int32), (110 : Int32), (110 : Int32), (111 : Int32), (116 : Int32), (32 : Int32), (114 : Int32), (101 : Int32), (97 : Int32), (100 : Int32), (32 : Int32), c0, c1, (58 : Int32), (32 : Int32), c2, c3] : List Int32)).map (fun c => c.toInt8.toInt32)) (n := 18) (n0 := n0) (Nat.le_trans (Nat.le_trans Z0 (Nat.le_trans (Nat.le_trans (Nat.le_trans (Nat.le_trans (Nat.le_trans (Nat.le_trans (Nat.le_trans (Nat.le_trans (Nat.le_trans E1.1 E3.1) (Keep.of_wr W5).1) (Keep.of_wr W7).1) K9.1) E11.1) E13.1) (Keep.of_wr W15).1) (Keep.of_wr W17).1) K19.1)) (Nat.le_of_eq g21.symm)) (Nat.le_trans Z0 (Nat.le_trans (Nat.le_trans (Nat.le_trans (Nat.le_trans (Nat.le_trans (Nat.le_trans (Nat.le_trans (Nat.le_trans (Nat.le_trans (Nat.le_trans (Nat.le_trans (Nat.le_trans (Nat.le_trans (Nat.le_trans (Nat.le_trans (Nat.le_trans (Nat.le_trans (Nat.le_trans (Nat.le_trans (Nat.le_trans (Nat.le_trans (Nat.le_trans (Nat.le_trans (Nat.le_trans (Nat.le_trans (Nat.le_trans (Nat.le_trans (Nat.le_trans (Nat.le_trans E1.1 E3.1) (Keep.of_wr W5).1) (Keep.of_wr W7).1) K9.1) E11.1) E13.1) (Keep.of_wr W15).1) (Keep.of_wr W17).1) K19.1) E21.1) E23.1) (Keep.of_wr W25).1) (Keep.of_wr W27).1) (Keep.of_wr W29).1) (Keep.of_wr W31).1) (Keep.of_wr W33).1) (Keep.of_wr W35).1) (Keep.of_wr W37).1) (Keep.of_wr W39).1) (Keep.of_wr W41).1) (Keep.of_wr W43).1) (Keep.of_wr W45).1) (Keep.of_wr W47).1) (Keep.of_wr W49).1) (Keep.of_wr W51).1) (Keep.of_wr W53).1) (Keep.of_wr W55).1) (Keep.of_wr W57).1) (Keep.of_wr W59).1)) (((((((((((((((((((A21.ext E23).wr W25).wr W27).wr W29).wr W31).wr W33).wr W35).wr W37).wr W39).wr W41).wr W43).wr W45).wr W47).wr W49).wr W51).wr W53).wr W55).wr W57).wr W59) (((((((((((((((((((F21_value.ext E23).other W25 (Or.inl (Nat.ne_of_lt (Nat.lt_of_lt_of_eq A21.lt g23.symm)))).other W27 (Or.inl (Nat.ne_of_lt (Nat.lt_of_lt_of_eq A21.lt g23.symm)))).other W29 (Or.inl (Nat.ne_of_lt (Nat.lt_of_lt_of_eq A21.lt g23.symm)))).other W31 (Or.inl (Nat.ne_of_lt (Nat.lt_of_lt_of_eq A21.lt g23.symm)))).other W33 (Or.inl (Nat.ne_of_lt (Nat.lt_of_lt_of_eq A21.lt g23.symm)))).other W35 (Or.inl (Nat.ne_of_lt (Nat.lt_of_lt_of_eq A21.lt g23.symm)))).other W37 (Or.inl (Nat.ne_of_lt (Nat.lt_of_lt_of_eq A21.lt g23.symm)))).other W39 (Or.inl (Nat.ne_of_lt (Nat.lt_of_lt_of_eq A21.lt g23.symm)))).other W41 (Or.inl (Nat.ne_of_lt (Nat.lt_of_lt_of_eq A21.lt g23.symm)))).other W43 (Or.inl (Nat.ne_of_lt (Nat.lt_of_lt_of_eq A21.lt g23.symm)))).other W45 (Or.inl (Nat.ne_of_lt (Nat.lt_of_lt_of_eq A21.lt g23.symm)))).other W47 (Or.inl (Nat.ne_of_lt (Nat.lt_of_lt_of_eq A21.lt g23.symm)))).other W49 (Or.inl (Nat.ne_of_lt (Nat.lt_of_lt_of_eq A21.lt g23.symm)))).other W51 (Or.inl (Nat.ne_of_lt (Nat.lt_of_lt_of_eq A21.lt g23.symm)))).other W53 (Or.inl (Nat.ne_of_lt (Nat.lt_of_lt_of_eq A21.lt g23.symm)))).other W55 (Or.inl (Nat.ne_of_lt (Nat.lt_of_lt_of_eq A21.lt g23.symm)))).other W57 (Or.inl (Nat.ne_of_lt (Nat.lt_of_lt_of_eq A21.lt g23.symm)))).other W59 (Or.inl (Nat.ne_of_lt (Nat.lt_of_lt_of_eq A21.lt g23.symm)))) (((((((((((((((((((F21_coder.ext E23).other W25 (Or.inl (Nat.ne_of_lt (Nat.lt_of_lt_of_eq A21.lt g23.symm)))).other W27 (Or.inl (Nat.ne_of_lt (Nat.lt_of_lt_of_eq A21.lt g23.symm)))).other W29 (Or.inl (Nat.ne_of_lt (Nat.lt_of_lt_of_eq A21.lt g23.symm)))).other W31 (Or.inl (Nat.ne_of_lt (Nat.lt_of_lt_of_eq A21.lt g23.symm)))).other W33 (Or.inl (Nat.ne_of_lt (Nat.lt_of_lt_of_eq A21.lt g23.symm)))).other W35 (Or.inl (Nat.ne_of_lt (Nat.lt_of_lt_of_eq A21.lt g23.symm)))).other W37 (Or.inl (Nat.ne_of_lt (Nat.lt_of_lt_of_eq A21.lt g23.symm)))).other W39 (Or.inl (Nat.ne_of_lt (Nat.lt_of_lt_of_eq A21.lt g23.symm)))).other W41 (Or.inl (Nat.ne_of_lt (Nat.lt_of_lt_of_eq A21.lt g23.symm)))).other W43 (Or.inl (Nat.ne_of_lt (Nat.lt_of_lt_of_eq A21.lt g23.symm)))).other W45 (Or.inl (Nat.ne_of_lt (Nat.lt_of_lt_of_eq A21.lt g23.symm)))).other W47 (Or.inl (Nat.ne_of_lt (Nat.lt_of_lt_of_eq A21.lt g23.symm)))).other W49 (Or.inl (Nat.ne_of_lt (Nat.lt_of_lt_of_eq A21.lt g23.symm)))).other W51 (Or.inl (Nat.ne_of_lt (Nat.lt_of_lt_of_eq A21.lt g23.symm)))).other W53 (Or.inl (Nat.ne_of_lt (Nat.lt_of_lt_of_eq A21.lt g23.symm)))).other W55 (Or.inl (Nat.ne_of_lt (Nat.lt_of_lt_of_eq A21.lt g23.symm)))).other W57 (Or.inl (Nat.ne_of_lt (Nat.lt_of_lt_of_eq A21.lt g23.symm)))).other W59 (Or.inl (Nat.ne_of_lt (Nat.lt_of_lt_of_eq A21.lt g23.symm)))) V59 (O.ext ((((((((((((((((((((((((((((((X00.ext E1).ext E3).wr W5 (Nat.le_trans (Nat.le_trans Z0 E1.1) (Nat.le_of_eq g3.symm))).wr W7 (Nat.le_trans (Nat.le_trans Z0 E1.1) (Nat.le_of_eq g3.symm))).keep K9 (allS (Nat.le_trans Z0 (Nat.le_of_eq g1.symm)) all0)).ext E11).ext E13).wr W15 (Nat.le_trans (Nat.le_trans Z0 (Nat.le_trans (Nat.le_trans (Nat.le_trans (Nat.le_trans (Nat.le_trans E1.1 E3.1) (Keep.of_wr W5).1) (Keep.of_wr W7).1) K9.1) E11.1)) (Nat.le_of_eq g13.symm))).wr W17 (Nat.le_trans (Nat.le_trans Z0 (Nat.le_trans (Nat.le_trans (Nat.le_trans (Nat.le_trans (Nat.le_trans E1.1 E3.1) (Keep.of_wr W5).1) (Keep.of_wr W7).1) K9.1) E11.1)) (Nat.le_of_eq g13.symm))).keep K19 (allS (Nat.le_trans (Nat.le_trans Z0 (Nat.le_trans (Nat.le_trans (Nat.le_trans (Nat.le_trans E1.1 E3.1) (Keep.of_wr W5).1) (Keep.of_wr W7).1) K9.1)) (Nat.le_of_eq g11.symm)) all0)).ext E21).ext E23).wr W25 (Nat.le_trans (Nat.le_trans Z0 (Nat.le_trans (Nat.le_trans (Nat.le_trans (Nat.le_trans (Nat.le_trans (Nat.le_trans (Nat.le_trans (Nat.le_trans (Nat.le_trans (Nat.le_trans E1.1 E3.1) (Keep.of_wr W5).1) (Keep.of_wr W7).1) K9.1) E11.1) E13.1) (Keep.of_wr W15).1) (Keep.of_wr W17).1) K19.1) E21.1)) (Nat.le_of_eq g23.symm))).wr W27 (Nat.le_trans (Nat.le_trans Z0 (Nat.le_trans (Nat.le_trans (Nat.le_trans (Nat.le_trans (Nat.le_trans (Nat.le_trans (Nat.le_trans (Nat.le_trans (Nat.le_trans (Nat.le_trans E1.1 E3.1) (Keep.of_wr W5).1) (Keep.of_wr W7).1) K9.1) E11.1) E13.1) (Keep.of_wr W15).1) (Keep.of_wr W17).1) K19.1) E21.1)) (Nat.le_of_eq g23.symm))).wr W29 (Nat.le_trans (Nat.le_trans Z0 (Nat.le_trans (Nat.le_trans (Nat.le_trans (Nat.le_trans (Nat.le_trans (Nat.le_trans (Nat.le_trans (Nat.le_trans (Nat.le_trans (Nat.le_trans E1.1 E3.1) (Keep.of_wr W5).1) (Keep.of_wr W7).1) K9.1) E11.1) E13.1) (Keep.of_wr W15).1) (Keep.of_wr W17).1) K19.1) E21.1)) (Nat.le_of_eq g23.symm))).wr W31 (Nat.le_trans (Nat.le_trans Z0 (Nat.le_trans (Nat.le_trans (Nat.le_trans (Nat.le_trans (Nat.le_trans (Nat.le_trans (Nat.le_trans (Nat.le_trans (Nat.le_trans (Nat.le_trans E1.1 E3.1) (Keep.of_wr W5).1) (Keep.of_wr W7).1) K9.1) E11.1) E13.1) (Keep.of_wr W15).1) (Keep.of_wr W17).1) K19.1) E21.1)) (Nat.le_of_eq g23.symm))).wr W33 (Nat.le_trans (Nat.le_trans Z0 (Nat.le_trans (Nat.le_trans (Nat.le_trans (Nat.le_trans (Nat.le_trans (Nat.le_trans (Nat.le_trans (Nat.le_trans (Nat.le_trans (Nat.le_trans E1.1 E3.1) (Keep.of_wr W5).1) (Keep.of_wr W7).1) K9.1) E11.1) E13.1) (Keep.of_wr W15).1) (Keep.of_wr W17).1) K19.1) E21.1)) (Nat.le_of_eq g23.symm))).wr W35 (Nat.le_trans (Nat.le_trans Z0 (Nat.le_trans (Nat.le_trans (Nat.le_trans (Nat.le_trans (Nat.le_trans (Nat.le_trans (Nat.le_trans (Nat.le_trans (Nat.le_trans (Nat.le_trans E1.1 E3.1) (Keep.of_wr W5).1) (Keep.of_wr W7).1) K9.1) E11.1) E13.1) (Keep.of_wr W15).1) (Keep.of_wr W17).1) K19.1) E21.1)) (Nat.le_of_eq g23.symm))).wr W37 (Nat.le_trans (Nat.le_trans Z0 (Nat.le_trans (Nat.le_trans (Nat.le_trans (Nat.le_trans (Nat.le_trans (Nat.le_trans (Nat.le_trans (Nat.le_trans (Nat.le_trans (Nat.le_trans E1.1 E3.1) (Keep.of_wr W5).1) (Keep.of_wr W7).1) K9.1) E11.1) E13.1) (Keep.of_wr W15).1) (Keep.of_wr W17).1) K19.1) E21.1)) (Nat.le_of_eq g23.symm))).wr W39 (Nat.le_trans (Nat.le_trans Z0 (Nat.le_trans (Nat.le_trans (Nat.le_trans (Nat.le_trans (Nat.le_trans (Nat.le_trans (Nat.le_trans (Nat.le_trans (Nat.le_trans (Nat.le_trans E1.1 E3.1) (Keep.of_wr W5).1) (Keep.of_wr W7).1) K9.1) E11.1) E13.1) (Keep.of_wr W15).1) (Keep.of_wr W17).1) K19.1) E21.1)) (Nat.le_of_eq g23.symm))).wr W41 (Nat.le_trans (Nat.le_trans Z0 (Nat.le_trans (Nat.le_trans (Nat.le_trans (Nat.le_trans (Nat.le_trans (Nat.le_trans (Nat.le_trans (Nat.le_trans (Nat.le_trans (Nat.le_trans E1.1 E3.1) (Keep.of_wr W5).1) (Keep.of_wr W7).1) K9.1) E11.1) E13.1) (Keep.of_wr W15).1) (Keep.of_wr W17).1) K19.1) E21.1)) (Nat.le_of_eq g23.symm))).wr W43 (Nat.le_trans (Nat.le_trans Z0 (Nat.le_trans (Nat.le_trans (Nat.le_trans (Nat.le_trans (Nat.le_trans (Nat.le_trans (Nat.le_trans (Nat.le_trans (Nat.le_trans (Nat.le_trans E1.1 E3.1) (Keep.of_wr W5).1) (Keep.of_wr W7).1) K9.1) E11.1) E13.1) (Keep.of_wr W15).1) (Keep.of_wr W17).1) K19.1) E21.1)) (Nat.le_of_eq g23.symm))).wr W45 (Nat.le_trans (Nat.le_trans Z0 (Nat.le_trans (Nat.le_trans (Nat.le_trans (Nat.le_trans (Nat.le_trans (Nat.le_trans (Nat.le_trans (Nat.le_trans (Nat.le_trans (Nat.le_trans E1.1 E3.1) (Keep.of_wr W5).1) (Keep.of_wr W7).1) K9.1) E11.1) E13.1) (Keep.of_wr W15).1) (Keep.of_wr W17).1) K19.1) E21.1)) (Nat.le_of_eq g23.symm))).wr W47 (Nat.le_trans (Nat.le_trans Z0 (Nat.le_trans (Nat.le_trans (Nat.le_trans (Nat.le_trans (Nat.le_trans (Nat.le_trans (Nat.le_trans (Nat.le_trans (Nat.le_trans (Nat.le_trans E1.1 E3.1) (Keep.of_wr W5).1) (Keep.of_wr W7).1) K9.1) E11.1) E13.1) (Keep.of_wr W15).1) (Keep.of_wr W17).1) K19.1) E21.1)) (Nat.le_of_eq g23.symm))).wr W49 (Nat.le_trans (Nat.le_trans Z0 (Nat.le_trans (Nat.le_trans (Nat.le_trans (Nat.le_trans (Nat.le_trans (Nat.le_trans (Nat.le_trans (Nat.le_trans (Nat.le_trans (Nat.le_trans E1.1 E3.1) (Keep.of_wr W5).1) (Keep.of_wr W7).1) K9.1) E11.1) E13.1) (Keep.of_wr W15).1) (Keep.of_wr W17).1) K19.1) E21.1)) (Nat.le_of_eq g23.symm))).wr W51 (Nat.le_trans (Nat.le_trans Z0 (Nat.le_trans (Nat.le_trans (Nat.le_trans (Nat.le_trans (Nat.le_trans (Nat.le_trans (Nat.le_trans (Nat.le_trans (Nat.le_trans (Nat.le_trans E1.1 E3.1) (Keep.of_wr W5).1) (Keep.of_wr W7).1) K9.1) E11.1) E13.1) (Keep.of_wr W15).1) (Keep.of_wr W17).1) K19.1) E21.1)) (Nat.le_of_eq g23.symm))).wr W53 (Nat.le_trans (Nat.le_trans Z0 (Nat.le_trans (Nat.le_trans (Nat.le_trans (Nat.le_trans (Nat.le_trans (Nat.le_trans (Nat.le_trans (Nat.le_trans (Nat.le_trans (Nat.le_trans E1.1 E3.1) (Keep.of_wr W5).1) (Keep.of_wr W7).1) K9.1) E11.1) E13.1) (Keep.of_wr W15).1) (Keep.of_wr W17).1) K19.1) E21.1)) (Nat.le_of_eq g23.symm))).wr W55 (Nat.le_trans (Nat.le_trans Z0 (Nat.le_trans (Nat.le_trans (Nat.le_trans (Nat.le_trans (Nat.le_trans (Nat.le_trans (Nat.le_trans (Nat.le_trans (Nat.le_trans (Nat.le_trans E1.1 E3.1) (Keep.of_wr W5).1) (Keep.of_wr W7).1) K9.1) E11.1) E13.1) (Keep.of_wr W15).1) (Keep.of_wr W17).1) K19.1) E21.1)) (Nat.le_of_eq g23.symm))).wr W57 (Nat.le_trans (Nat.le_trans Z0 (Nat.le_trans (Nat.le_trans (Nat.le_trans (Nat.le_trans (Nat.le_trans (Nat.le_trans (Nat.le_trans (Nat.le_trans (Nat.le_trans (Nat.le_trans E1.1 E3.1) (Keep.of_wr W5).1) (Keep.of_wr W7).1) K9.1) E11.1) E13.1) (Keep.of_wr W15).1) (Keep.of_wr W17).1) K19.1) E21.1)) (Nat.le_of_eq g23.symm))).wr W59 (Nat.le_trans (Nat.le_trans Z0 (Nat.le_trans (Nat.le_trans (Nat.le_trans (Nat.le_trans (Nat.le_trans (Nat.le_trans (Nat.le_trans (Nat.le_trans (Nat.le_trans (Nat.le_trans E1.1 E3.1) (Keep.of_wr W5).1) (Keep.of_wr W7).1) K9.1) E11.1) E13.1) (Keep.of_wr W15).1) (Keep.of_wr W17).1) K19.1) E21.1)) (Nat.le_of_eq g23.symm))).2) hz rfl rfl (by decide) (by decide) hpM rfl (by decide) (by decide)) (pc := 186) (Ls := #[.val (.int p0), .val (.int p1), .val (.int ((p0 &&& (255 : Int32)).toUInt32.toUInt16.toUInt32.toInt32)), .val (.int ((((p0.toUInt32 >>> ((8 : Int32) &&& 31).toUInt32).toInt32) &&& (255 : Int32)).toUInt32.toUInt16.toUInt32.toInt32)), .val (.int ((p1 &&& (255 : Int32)).toUInt32.toUInt16.toUInt32.toInt32)), .val (.int ((((p1.toUInt32 >>> ((8 : Int32) &&& 31).toUInt32).toInt32) &&& (255 : Int32)).toUInt32.toUInt16.toUInt32.toInt32)), .val (.ref b1), .val (.ref b11), .unset, .unset, .unset]) (by rw [hml]; rfl) (lenOf own_pd21 rfl) rfl (Nat.le_of_eq rfl) (hb hby at_186) (by decide) (by decide)
  refine own_stW (g' := (mkF m 189 #[.val (.int p0), .val (.int p1), .val (.int ((p0 &&& (255 : Int32)).toUInt32.toUInt16.toUInt32.toInt32)), .val (.int ((((p0.toUInt32 >>> ((8 : Int32) &&& 31).toUInt32).toInt32) &&& (255 : Int32)).toUInt32.toUInt16.toUInt32.toInt32)), .val (.int ((p1 &&& (255 : Int32)).toUInt32.toUInt16.toUInt32.toInt32)), .val (.int ((((p1.toUInt32 >>> ((8 : Int32) &&& 31).toUInt32).toInt32) &&& (255 : Int32)).toUInt32.toUInt16.toUInt32.toInt32)), .val (.ref b1), .val (.ref b11), .unset, .unset, .unset] [(.ref b21)])) st61 ?_
  have N61 := Fr.app N59 N61q
  have w62 := w60.keep K61 (sfS (Safe.wr W59 qsw60 w58.held (Safe.wr W57 qsw58 w56.held (Safe.wr W55 qsw56 w54.held (Safe.wr W53 qsw54 w52.held (Safe.wr W51 qsw52 w50.held (Safe.wr W49 qsw50 w48.held (Safe.wr W47 qsw48 w46.held (Safe.wr W45 qsw46 w44.held (Safe.wr W43 qsw44 w42.held (Safe.wr W41 qsw42 w40.held (Safe.wr W39 qsw40 w38.held (Safe.wr W37 qsw38 w36.held (Safe.wr W35 qsw36 w34.held (Safe.wr W33 qsw34 w32.held (Safe.wr W31 qsw32 w30.held (Safe.wr W29 qsw30 w28.held (Safe.wr W27 qsw28 w26.held (Safe.wr W25 qsw26 w24.held (Safe.ext E23 w22.held (Safe.ext E21 w20.held (Safe.new (Nat.le_of_eq g21.symm)))))))))))))))))))))) sf0)
  refine own_stW (g' := (mkF m 195 #[.val (.int p0), .val (.int p1), .val (.int ((p0 &&& (255 : Int32)).toUInt32.toUInt16.toUInt32.toInt32)), .val (.int ((((p0.toUInt32 >>> ((8 : Int32) &&& 31).toUInt32).toInt32) &&& (255 : Int32)).toUInt32.toUInt16.toUInt32.toInt32)), .val (.int ((p1 &&& (255 : Int32)).toUInt32.toUInt16.toUInt32.toInt32)), .val (.int ((((p1.toUInt32 >>> ((8 : Int32) &&& 31).toUInt32).toInt32) &&& (255 : Int32)).toUInt32.toUInt16.toUInt32.toInt32)), .val (.ref b1), .val (.ref b11), .val (.ref b21), .unset, .unset] [(.ref b11), (.ref b1)])) (fun _ q => XS.astore X61.here hx rfl (hb hby at_189) rfl rfl (l' := #[.val (.int p0), .val (.int p1), .val (.int ((p0 &&& (255 : Int32)).toUInt32.toUInt16.toUInt32.toInt32)), .val (.int ((((p0.toUInt32 >>> ((8 : Int32) &&& 31).toUInt32).toInt32) &&& (255 : Int32)).toUInt32.toUInt16.toUInt32.toInt32)), .val (.int ((p1 &&& (255 : Int32)).toUInt32.toUInt16.toUInt32.toInt32)), .val (.int ((((p1.toUInt32 >>> ((8 : Int32) &&& 31).toUInt32).toInt32) &&& (255 : Int32)).toUInt32.toUInt16.toUInt32.toInt32)), .val (.ref b1), .val (.ref b11), .val (.ref b21), .unset, .unset]) rfl (XS.aload X61.here hx rfl (hb hby at_191) rfl rfl (XS.aload X61.here hx rfl (hb hby at_193) rfl rfl (q)))) ?_
  have K63 : own_BkW l room_1 p e below s #[(.int p0), (.int p1)] (⟨"com/example/titelfeld/titelfeld/command/CommandFailure", "readingStopped", "(Ljava/lang/String;Ljava/lang/String;)Lcom/example/titelfeld/titelfeld/command/CommandFailure;"⟩ : MethodName) 0 Z own_EL s.vm T61.heap #[(.ref b1), (.ref b11)] 11 3103 (own_Q_rdst Z b1 t9 b11 t19 kb9 kb19 ((([c0, c1] : List Int32).map (fun c => c.toInt8.toInt32)).map Value.int) ((([c2, c3] : List Int32).map (fun c => c.toInt8.toInt32)).map Value.int) n0 z T61.heap) := own_backWK (R := room_1) (W := 0) (Qc := (own_Q_rdst Z b1 t9 b11 t19 kb9 kb19 ((([c0, c1] : List Int32).map (fun c => c.toInt8.toInt32)).map Value.int) ((([c2, c3] : List Int32).map (fun c => c.toInt8.toInt32)).map Value.int) n0 z T61.heap)) (rm := ({ frames := 6, cells := 11, slots := 3103, locals := 96 } : Room)) (xs := []) (own_rm_rdst l Z a0 hw [] b1 t9 b11 t19 kb9 kb19 ((([c0, c1] : List Int32).map (fun c => c.toInt8.toInt32)).map Value.int) ((([c2, c3] : List Int32).map (fun c => c.toInt8.toInt32)).map Value.int) n0 z T61.heap ((((((((((((((((((((((((((E9.ext E11).ext E13).wr W15).wr W17).keep K19).ext E21).ext E23).wr W25).wr W27).wr W29).wr W31).wr W33).wr W35).wr W37).wr W39).wr W41).wr W43).wr W45).wr W47).wr W49).wr W51).wr W53).wr W55).wr W57).wr W59).keep K61) ((((((((((((((((((((((((((F9.ext E11).ext E13).other W15 (Or.inl (Nat.ne_of_lt (Nat.lt_of_lt_of_eq (Nat.lt_of_lt_of_le A1.lt (Nat.le_trans (Nat.le_trans (Nat.le_trans (Nat.le_trans E3.1 (Keep.of_wr W5).1) (Keep.of_wr W7).1) K9.1) E11.1)) g13.symm)))).other W17 (Or.inl (Nat.ne_of_lt (Nat.lt_of_lt_of_eq (Nat.lt_of_lt_of_le A1.lt (Nat.le_trans (Nat.le_trans (Nat.le_trans (Nat.le_trans E3.1 (Keep.of_wr W5).1) (Keep.of_wr W7).1) K9.1) E11.1)) g13.symm)))).keep K19 (ninS (Nat.ne_of_lt (Nat.lt_of_lt_of_eq (Nat.lt_of_lt_of_le A1.lt (Nat.le_trans (Nat.le_trans (Nat.le_trans E3.1 (Keep.of_wr W5).1) (Keep.of_wr W7).1) K9.1)) g11.symm)) nin0)).ext E21).ext E23).other W25 (Or.inl (Nat.ne_of_lt (Nat.lt_of_lt_of_eq (Nat.lt_of_lt_of_le A1.lt (Nat.le_trans (Nat.le_trans (Nat.le_trans (Nat.le_trans (Nat.le_trans (Nat.le_trans (Nat.le_trans (Nat.le_trans (Nat.le_trans E3.1 (Keep.of_wr W5).1) (Keep.of_wr W7).1) K9.1) E11.1) E13.1) (Keep.of_wr W15).1) (Keep.of_wr W17).1) K19.1) E21.1)) g23.symm)))).other W27 (Or.inl (Nat.ne_of_lt (Nat.lt_of_lt_of_eq (Nat.lt_of_lt_of_le A1.lt (Nat.le_trans (Nat.le_trans (Nat.le_trans (Nat.le_trans (Nat.le_trans (Nat.le_trans (Nat.le_trans (Nat.le_trans (Nat.le_trans E3.1 (Keep.of_wr W5).1) (Keep.of_wr W7).1) K9.1) E11.1) E13.1) (Keep.of_wr W15).1) (Keep.of_wr W17).1) K19.1) E21.1)) g23.symm)))).other W29 (Or.inl (Nat.ne_of_lt (Nat.lt_of_lt_of_eq (Nat.lt_of_lt_of_le A1.lt (Nat.le_trans (Nat.le_trans (Nat.le_trans (Nat.le_trans (Nat.le_trans (Nat.le_trans (Nat.le_trans (Nat.le_trans (Nat.le_trans E3.1 (Keep.of_wr W5).1) (Keep.of_wr W7).1) K9.1) E11.1) E13.1) (Keep.of_wr W15).1) (Keep.of_wr W17).1) K19.1) E21.1)) g23.symm)))).other W31 (Or.inl (Nat.ne_of_lt (Nat.lt_of_lt_of_eq (Nat.lt_of_lt_of_le A1.lt (Nat.le_trans (Nat.le_trans (Nat.le_trans (Nat.le_trans (Nat.le_trans (Nat.le_trans (Nat.le_trans (Nat.le_trans (Nat.le_trans E3.1 (Keep.of_wr W5).1) (Keep.of_wr W7).1) K9.1) E11.1) E13.1) (Keep.of_wr W15).1) (Keep.of_wr W17).1) K19.1) E21.1)) g23.symm)))).other W33 (Or.inl (Nat.ne_of_lt (Nat.lt_of_lt_of_eq (Nat.lt_of_lt_of_le A1.lt (Nat.le_trans (Nat.le_trans (Nat.le_trans (Nat.le_trans (Nat.le_trans (Nat.le_trans (Nat.le_trans (Nat.le_trans (Nat.le_trans E3.1 (Keep.of_wr W5).1) (Keep.of_wr W7).1) K9.1) E11.1) E13.1) (Keep.of_wr W15).1) (Keep.of_wr W17).1) K19.1) E21.1)) g23.symm)))).other W35 (Or.inl (Nat.ne_of_lt (Nat.lt_of_lt_of_eq (Nat.lt_of_lt_of_le A1.lt (Nat.le_trans (Nat.le_trans (Nat.le_trans (Nat.le_trans (Nat.le_trans (Nat.le_trans (Nat.le_trans (Nat.le_trans (Nat.le_trans E3.1 (Keep.of_wr W5).1) (Keep.of_wr W7).1) K9.1) E11.1) E13.1) (Keep.of_wr W15).1) (Keep.of_wr W17).1) K19.1) E21.1)) g23.symm)))).other W37 (Or.inl (Nat.ne_of_lt (Nat.lt_of_lt_of_eq (Nat.lt_of_lt_of_le A1.lt (Nat.le_trans (Nat.le_trans (Nat.le_trans (Nat.le_trans (Nat.le_trans (Nat.le_trans (Nat.le_trans (Nat.le_trans (Nat.le_trans E3.1 (Keep.of_wr W5).1) (Keep.of_wr W7).1) K9.1) E11.1) E13.1) (Keep.of_wr W15).1) (Keep.of_wr W17).1) K19.1) E21.1)) g23.symm)))).other W39 (Or.inl (Nat.ne_of_lt (Nat.lt_of_lt_of_eq (Nat.lt_of_lt_of_le A1.lt (Nat.le_trans (Nat.le_trans (Nat.le_trans (Nat.le_trans (Nat.le_trans (Nat.le_trans (Nat.le_trans (Nat.le_trans (Nat.le_trans E3.1 (Keep.of_wr W5).1) (Keep.of_wr W7).1) K9.1) E11.1) E13.1) (Keep.of_wr W15).1) (Keep.of_wr W17).1) K19.1) E21.1)) g23.symm)))).other W41 (Or.inl (Nat.ne_of_lt (Nat.lt_of_lt_of_eq (Nat.lt_of_lt_of_le A1.lt (Nat.le_trans (Nat.le_trans (Nat.le_trans (Nat.le_trans (Nat.le_trans (Nat.le_trans (Nat.le_trans (Nat.le_trans (Nat.le_trans E3.1 (Keep.of_wr W5).1) (Keep.of_wr W7).1) K9.1) E11.1) E13.1) (Keep.of_wr W15).1) (Keep.of_wr W17).1) K19.1) E21.1)) g23.symm)))).other W43 (Or.inl (Nat.ne_of_lt (Nat.lt_of_lt_of_eq (Nat.lt_of_lt_of_le A1.lt (Nat.le_trans (Nat.le_trans (Nat.le_trans (Nat.le_trans (Nat.le_trans (Nat.le_trans (Nat.le_trans (Nat.le_trans (Nat.le_trans E3.1 (Keep.of_wr W5).1) (Keep.of_wr W7).1) K9.1) E11.1) E13.1) (Keep.of_wr W15).1) (Keep.of_wr W17).1) K19.1) E21.1)) g23.symm)))).other W45 (Or.inl (Nat.ne_of_lt (Nat.lt_of_lt_of_eq (Nat.lt_of_lt_of_le A1.lt (Nat.le_trans (Nat.le_trans (Nat.le_trans (Nat.le_trans (Nat.le_trans (Nat.le_trans (Nat.le_trans (Nat.le_trans (Nat.le_trans E3.1 (Keep.of_wr W5).1) (Keep.of_wr W7).1) K9.1) E11.1) E13.1) (Keep.of_wr W15).1) (Keep.of_wr W17).1) K19.1) E21.1)) g23.symm)))).other W47 (Or.inl (Nat.ne_of_lt (Nat.lt_of_lt_of_eq (Nat.lt_of_lt_of_le A1.lt (Nat.le_trans (Nat.le_trans (Nat.le_trans (Nat.le_trans (Nat.le_trans (Nat.le_trans (Nat.le_trans (Nat.le_trans (Nat.le_trans E3.1 (Keep.of_wr W5).1) (Keep.of_wr W7).1) K9.1) E11.1) E13.1) (Keep.of_wr W15).1) (Keep.of_wr W17).1) K19.1) E21.1)) g23.symm)))).other W49 (Or.inl (Nat.ne_of_lt (Nat.lt_of_lt_of_eq (Nat.lt_of_lt_of_le A1.lt (Nat.le_trans (Nat.le_trans (Nat.le_trans (Nat.le_trans (Nat.le_trans (Nat.le_trans (Nat.le_trans (Nat.le_trans (Nat.le_trans E3.1 (Keep.of_wr W5).1) (Keep.of_wr W7).1) K9.1) E11.1) E13.1) (Keep.of_wr W15).1) (Keep.of_wr W17).1) K19.1) E21.1)) g23.symm)))).other W51 (Or.inl (Nat.ne_of_lt (Nat.lt_of_lt_of_eq (Nat.lt_of_lt_of_le A1.lt (Nat.le_trans (Nat.le_trans (Nat.le_trans (Nat.le_trans (Nat.le_trans (Nat.le_trans (Nat.le_trans (Nat.le_trans (Nat.le_trans E3.1 (Keep.of_wr W5).1) (Keep.of_wr W7).1) K9.1) E11.1) E13.1) (Keep.of_wr W15).1) (Keep.of_wr W17).1) K19.1) E21.1)) g23.symm)))).other W53 (Or.inl (Nat.ne_of_lt (Nat.lt_of_lt_of_eq (Nat.lt_of_lt_of_le A1.lt (Nat.le_trans (Nat.le_trans (Nat.le_trans (Nat.le_trans (Nat.le_trans (Nat.le_trans (Nat.le_trans (Nat.le_trans (Nat.le_trans E3.1 (Keep.of_wr W5).1) (Keep.of_wr W7).1) K9.1) E11.1) E13.1) (Keep.of_wr W15).1) (Keep.of_wr W17).1) K19.1) E21.1)) g23.symm)))).other W55 (Or.inl (Nat.ne_of_lt (Nat.lt_of_lt_of_eq (Nat.lt_of_lt_of_le A1.lt (Nat.le_trans (Nat.le_trans (Nat.le_trans (Nat.le_trans (Nat.le_trans (Nat.le_trans (Nat.le_trans (Nat.le_trans (Nat.le_trans E3.1 (Keep.of_wr W5).1) (Keep.of_wr W7).1) K9.1) E11.1) E13.1) (Keep.of_wr W15).1) (Keep.of_wr W17).1) K19.1) E21.1)) g23.symm)))).other W57 (Or.inl (Nat.ne_of_lt (Nat.lt_of_lt_of_eq (Nat.lt_of_lt_of_le A1.lt (Nat.le_trans (Nat.le_trans (Nat.le_trans (Nat.le_trans (Nat.le_trans (Nat.le_trans (Nat.le_trans (Nat.le_trans (Nat.le_trans E3.1 (Keep.of_wr W5).1) (Keep.of_wr W7).1) K9.1) E11.1) E13.1) (Keep.of_wr W15).1) (Keep.of_wr W17).1) K19.1) E21.1)) g23.symm)))).other W59 (Or.inl (Nat.ne_of_lt (Nat.lt_of_lt_of_eq (Nat.lt_of_lt_of_le A1.lt (Nat.le_trans (Nat.le_trans (Nat.le_trans (Nat.le_trans (Nat.le_trans (Nat.le_trans (Nat.le_trans (Nat.le_trans (Nat.le_trans E3.1 (Keep.of_wr W5).1) (Keep.of_wr W7).1) K9.1) E11.1) E13.1) (Keep.of_wr W15).1) (Keep.of_wr W17).1) K19.1) E21.1)) g23.symm)))).keep K61 (ninS (Nat.ne_of_lt (Nat.lt_of_lt_of_eq (Nat.lt_of_lt_of_le A1.lt (Nat.le_trans (Nat.le_trans (Nat.le_trans (Nat.le_trans (Nat.le_trans (Nat.le_trans (Nat.le_trans (Nat.le_trans E3.1 (Keep.of_wr W5).1) (Keep.of_wr W7).1) K9.1) E11.1) E13.1) (Keep.of_wr W15).1) (Keep.of_wr W17).1) K19.1)) g21.symm)) nin0)) ((((((((((((((((((((((((((C9.ext E11).ext E13).other W15 (Or.inl (Nat.ne_of_lt (Nat.lt_of_lt_of_eq (Nat.lt_of_lt_of_le A1.lt (Nat.le_trans (Nat.le_trans (Nat.le_trans (Nat.le_trans E3.1 (Keep.of_wr W5).1) (Keep.of_wr W7).1) K9.1) E11.1)) g13.symm)))).other W17 (Or.inl (Nat.ne_of_lt (Nat.lt_of_lt_of_eq (Nat.lt_of_lt_of_le A1.lt (Nat.le_trans (Nat.le_trans (Nat.le_trans (Nat.le_trans E3.1 (Keep.of_wr W5).1) (Keep.of_wr W7).1) K9.1) E11.1)) g13.symm)))).keep K19 (ninS (Nat.ne_of_lt (Nat.lt_of_lt_of_eq (Nat.lt_of_lt_of_le A1.lt (Nat.le_trans (Nat.le_trans (Nat.le_trans E3.1 (Keep.of_wr W5).1) (Keep.of_wr W7).1) K9.1)) g11.symm)) nin0)).ext E21).ext E23).other W25 (Or.inl (Nat.ne_of_lt (Nat.lt_of_lt_of_eq (Nat.lt_of_lt_of_le A1.lt (Nat.le_trans (Nat.le_trans (Nat.le_trans (Nat.le_trans (Nat.le_trans (Nat.le_trans (Nat.le_trans (Nat.le_trans (Nat.le_trans E3.1 (Keep.of_wr W5).1) (Keep.of_wr W7).1) K9.1) E11.1) E13.1) (Keep.of_wr W15).1) (Keep.of_wr W17).1) K19.1) E21.1)) g23.symm)))).other W27 (Or.inl (Nat.ne_of_lt (Nat.lt_of_lt_of_eq (Nat.lt_of_lt_of_le A1.lt (Nat.le_trans (Nat.le_trans (Nat.le_trans (Nat.le_trans (Nat.le_trans (Nat.le_trans (Nat.le_trans (Nat.le_trans (Nat.le_trans E3.1 (Keep.of_wr W5).1) (Keep.of_wr W7).1) K9.1) E11.1) E13.1) (Keep.of_wr W15).1) (Keep.of_wr W17).1) K19.1) E21.1)) g23.symm)))).other W29 (Or.inl (Nat.ne_of_lt (Nat.lt_of_lt_of_eq (Nat.lt_of_lt_of_le A1.lt (Nat.le_trans (Nat.le_trans (Nat.le_trans (Nat.le_trans (Nat.le_trans (Nat.le_trans (Nat.le_trans (Nat.le_trans (Nat.le_trans E3.1 (Keep.of_wr W5).1) (Keep.of_wr W7).1) K9.1) E11.1) E13.1) (Keep.of_wr W15).1) (Keep.of_wr W17).1) K19.1) E21.1)) g23.symm)))).other W31 (Or.inl (Nat.ne_of_lt (Nat.lt_of_lt_of_eq (Nat.lt_of_lt_of_le A1.lt (Nat.le_trans (Nat.le_trans (Nat.le_trans (Nat.le_trans (Nat.le_trans (Nat.le_trans (Nat.le_trans (Nat.le_trans (Nat.le_trans E3.1 (Keep.of_wr W5).1) (Keep.of_wr W7).1) K9.1) E11.1) E13.1) (Keep.of_wr W15).1) (Keep.of_wr W17).1) K19.1) E21.1)) g23.symm)))).other W33 (Or.inl (Nat.ne_of_lt (Nat.lt_of_lt_of_eq (Nat.lt_of_lt_of_le A1.lt (Nat.le_trans (Nat.le_trans (Nat.le_trans (Nat.le_trans (Nat.le_trans (Nat.le_trans (Nat.le_trans (Nat.le_trans (Nat.le_trans E3.1 (Keep.of_wr W5).1) (Keep.of_wr W7).1) K9.1) E11.1) E13.1) (Keep.of_wr W15).1) (Keep.of_wr W17).1) K19.1) E21.1)) g23.symm)))).other W35 (Or.inl (Nat.ne_of_lt (Nat.lt_of_lt_of_eq (Nat.lt_of_lt_of_le A1.lt (Nat.le_trans (Nat.le_trans (Nat.le_trans (Nat.le_trans (Nat.le_trans (Nat.le_trans (Nat.le_trans (Nat.le_trans (Nat.le_trans E3.1 (Keep.of_wr W5).1) (Keep.of_wr W7).1) K9.1) E11.1) E13.1) (Keep.of_wr W15).1) (Keep.of_wr W17).1) K19.1) E21.1)) g23.symm)))).other W37 (Or.inl (Nat.ne_of_lt (Nat.lt_of_lt_of_eq (Nat.lt_of_lt_of_le A1.lt (Nat.le_trans (Nat.le_trans (Nat.le_trans (Nat.le_trans (Nat.le_trans (Nat.le_trans (Nat.le_trans (Nat.le_trans (Nat.le_trans E3.1 (Keep.of_wr W5).1) (Keep.of_wr W7).1) K9.1) E11.1) E13.1) (Keep.of_wr W15).1) (Keep.of_wr W17).1) K19.1) E21.1)) g23.symm)))).other W39 (Or.inl (Nat.ne_of_lt (Nat.lt_of_lt_of_eq (Nat.lt_of_lt_of_le A1.lt (Nat.le_trans (Nat.le_trans (Nat.le_trans (Nat.le_trans (Nat.le_trans (Nat.le_trans (Nat.le_trans (Nat.le_trans (Nat.le_trans E3.1 (Keep.of_wr W5).1) (Keep.of_wr W7).1) K9.1) E11.1) E13.1) (Keep.of_wr W15).1) (Keep.of_wr W17).1) K19.1) E21.1)) g23.symm)))).other W41 (Or.inl (Nat.ne_of_lt (Nat.lt_of_lt_of_eq (Nat.lt_of_lt_of_le A1.lt (Nat.le_trans (Nat.le_trans (Nat.le_trans (Nat.le_trans (Nat.le_trans (Nat.le_trans (Nat.le_trans (Nat.le_trans (Nat.le_trans E3.1 (Keep.of_wr W5).1) (Keep.of_wr W7).1) K9.1) E11.1) E13.1) (Keep.of_wr W15).1) (Keep.of_wr W17).1) K19.1) E21.1)) g23.symm)))).other W43 (Or.inl (Nat.ne_of_lt (Nat.lt_of_lt_of_eq (Nat.lt_of_lt_of_le A1.lt (Nat.le_trans (Nat.le_trans (Nat.le_trans (Nat.le_trans (Nat.le_trans (Nat.le_trans (Nat.le_trans (Nat.le_trans (Nat.le_trans E3.1 (Keep.of_wr W5).1) (Keep.of_wr W7).1) K9.1) E11.1) E13.1) (Keep.of_wr W15).1) (Keep.of_wr W17).1) K19.1) E21.1)) g23.symm)))).other W45 (Or.inl (Nat.ne_of_lt (Nat.lt_of_lt_of_eq (Nat.lt_of_lt_of_le A1.lt (Nat.le_trans (Nat.le_trans (Nat.le_trans (Nat.le_trans (Nat.le_trans (Nat.le_trans (Nat.le_trans (Nat.le_trans (Nat.le_trans E3.1 (Keep.of_wr W5).1) (Keep.of_wr W7).1) K9.1) E11.1) E13.1) (Keep.of_wr W15).1) (Keep.of_wr W17).1) K19.1) E21.1)) g23.symm)))).other W47 (Or.inl (Nat.ne_of_lt (Nat.lt_of_lt_of_eq (Nat.lt_of_lt_of_le A1.lt (Nat.le_trans (Nat.le_trans (Nat.le_trans (Nat.le_trans (Nat.le_trans (Nat.le_trans (Nat.le_trans (Nat.le_trans (Nat.le_trans E3.1 (Keep.of_wr W5).1) (Keep.of_wr W7).1) K9.1) E11.1) E13.1) (Keep.of_wr W15).1) (Keep.of_wr W17).1) K19.1) E21.1)) g23.symm)))).other W49 (Or.inl (Nat.ne_of_lt (Nat.lt_of_lt_of_eq (Nat.lt_of_lt_of_le A1.lt (Nat.le_trans (Nat.le_trans (Nat.le_trans (Nat.le_trans (Nat.le_trans (Nat.le_trans (Nat.le_trans (Nat.le_trans (Nat.le_trans E3.1 (Keep.of_wr W5).1) (Keep.of_wr W7).1) K9.1) E11.1) E13.1) (Keep.of_wr W15).1) (Keep.of_wr W17).1) K19.1) E21.1)) g23.symm)))).other W51 (Or.inl (Nat.ne_of_lt (Nat.lt_of_lt_of_eq (Nat.lt_of_lt_of_le A1.lt (Nat.le_trans (Nat.le_trans (Nat.le_trans (Nat.le_trans (Nat.le_trans (Nat.le_trans (Nat.le_trans (Nat.le_trans (Nat.le_trans E3.1 (Keep.of_wr W5).1) (Keep.of_wr W7).1) K9.1) E11.1) E13.1) (Keep.of_wr W15).1) (Keep.of_wr W17).1) K19.1) E21.1)) g23.symm)))).other W53 (Or.inl (Nat.ne_of_lt (Nat.lt_of_lt_of_eq (Nat.lt_of_lt_of_le A1.lt (Nat.le_trans (Nat.le_trans (Nat.le_trans (Nat.le_trans (Nat.le_trans (Nat.le_trans (Nat.le_trans (Nat.le_trans (Nat.le_trans E3.1 (Keep.of_wr W5).1) (Keep.of_wr W7).1) K9.1) E11.1) E13.1) (Keep.of_wr W15).1) (Keep.of_wr W17).1) K19.1) E21.1)) g23.symm)))).other W55 (Or.inl (Nat.ne_of_lt (Nat.lt_of_lt_of_eq (Nat.lt_of_lt_of_le A1.lt (Nat.le_trans (Nat.le_trans (Nat.le_trans (Nat.le_trans (Nat.le_trans (Nat.le_trans (Nat.le_trans (Nat.le_trans (Nat.le_trans E3.1 (Keep.of_wr W5).1) (Keep.of_wr W7).1) K9.1) E11.1) E13.1) (Keep.of_wr W15).1) (Keep.of_wr W17).1) K19.1) E21.1)) g23.symm)))).other W57 (Or.inl (Nat.ne_of_lt (Nat.lt_of_lt_of_eq (Nat.lt_of_lt_of_le A1.lt (Nat.le_trans (Nat.le_trans (Nat.le_trans (Nat.le_trans (Nat.le_trans (Nat.le_trans (Nat.le_trans (Nat.le_trans (Nat.le_trans E3.1 (Keep.of_wr W5).1) (Keep.of_wr W7).1) K9.1) E11.1) E13.1) (Keep.of_wr W15).1) (Keep.of_wr W17).1) K19.1) E21.1)) g23.symm)))).other W59 (Or.inl (Nat.ne_of_lt (Nat.lt_of_lt_of_eq (Nat.lt_of_lt_of_le A1.lt (Nat.le_trans (Nat.le_trans (Nat.le_trans (Nat.le_trans (Nat.le_trans (Nat.le_trans (Nat.le_trans (Nat.le_trans (Nat.le_trans E3.1 (Keep.of_wr W5).1) (Keep.of_wr W7).1) K9.1) E11.1) E13.1) (Keep.of_wr W15).1) (Keep.of_wr W17).1) K19.1) E21.1)) g23.symm)))).keep K61 (ninS (Nat.ne_of_lt (Nat.lt_of_lt_of_eq (Nat.lt_of_lt_of_le A1.lt (Nat.le_trans (Nat.le_trans (Nat.le_trans (Nat.le_trans (Nat.le_trans (Nat.le_trans (Nat.le_trans (Nat.le_trans E3.1 (Keep.of_wr W5).1) (Keep.of_wr W7).1) K9.1) E11.1) E13.1) (Keep.of_wr W15).1) (Keep.of_wr W17).1) K19.1)) g21.symm)) nin0)) ((((((((((((((((((((((((((A9.ext E11).ext E13).other W15 (Nat.ne_of_lt (Nat.lt_of_lt_of_eq (Nat.lt_of_lt_of_le A9.lt E11.1) g13.symm))).other W17 (Nat.ne_of_lt (Nat.lt_of_lt_of_eq (Nat.lt_of_lt_of_le A9.lt E11.1) g13.symm))).keep K19 (ninS (Nat.ne_of_lt (Nat.lt_of_lt_of_eq A9.lt g11.symm)) nin0)).ext E21).ext E23).other W25 (Nat.ne_of_lt (Nat.lt_of_lt_of_eq (Nat.lt_of_lt_of_le A9.lt (Nat.le_trans (Nat.le_trans (Nat.le_trans (Nat.le_trans (Nat.le_trans E11.1 E13.1) (Keep.of_wr W15).1) (Keep.of_wr W17).1) K19.1) E21.1)) g23.symm))).other W27 (Nat.ne_of_lt (Nat.lt_of_lt_of_eq (Nat.lt_of_lt_of_le A9.lt (Nat.le_trans (Nat.le_trans (Nat.le_trans (Nat.le_trans (Nat.le_trans E11.1 E13.1) (Keep.of_wr W15).1) (Keep.of_wr W17).1) K19.1) E21.1)) g23.symm))).other W29 (Nat.ne_of_lt (Nat.lt_of_lt_of_eq (Nat.lt_of_lt_of_le A9.lt (Nat.le_trans (Nat.le_trans (Nat.le_trans (Nat.le_trans (Nat.le_trans E11.1 E13.1) (Keep.of_wr W15).1) (Keep.of_wr W17).1) K19.1) E21.1)) g23.symm))).other W31 (Nat.ne_of_lt (Nat.lt_of_lt_of_eq (Nat.lt_of_lt_of_le A9.lt (Nat.le_trans (Nat.le_trans (Nat.le_trans (Nat.le_trans (Nat.le_trans E11.1 E13.1) (Keep.of_wr W15).1) (Keep.of_wr W17).1) K19.1) E21.1)) g23.symm))).other W33 (Nat.ne_of_lt (Nat.lt_of_lt_of_eq (Nat.lt_of_lt_of_le A9.lt (Nat.le_trans (Nat.le_trans (Nat.le_trans (Nat.le_trans (Nat.le_trans E11.1 E13.1) (Keep.of_wr W15).1) (Keep.of_wr W17).1) K19.1) E21.1)) g23.symm))).other W35 (Nat.ne_of_lt (Nat.lt_of_lt_of_eq (Nat.lt_of_lt_of_le A9.lt (Nat.le_trans (Nat.le_trans (Nat.le_trans (Nat.le_trans (Nat.le_trans E11.1 E13.1) (Keep.of_wr W15).1) (Keep.of_wr W17).1) K19.1) E21.1)) g23.symm))).other W37 (Nat.ne_of_lt (Nat.lt_of_lt_of_eq (Nat.lt_of_lt_of_le A9.lt (Nat.le_trans (Nat.le_trans (Nat.le_trans (Nat.le_trans (Nat.le_trans E11.1 E13.1) (Keep.of_wr W15).1) (Keep.of_wr W17).1) K19.1) E21.1)) g23.symm))).other W39 (Nat.ne_of_lt (Nat.lt_of_lt_of_eq (Nat.lt_of_lt_of_le A9.lt (Nat.le_trans (Nat.le_trans (Nat.le_trans (Nat.le_trans (Nat.le_trans E11.1 E13.1) (Keep.of_wr W15).1) (Keep.of_wr W17).1) K19.1) E21.1)) g23.symm))).other W41 (Nat.ne_of_lt (Nat.lt_of_lt_of_eq (Nat.lt_of_lt_of_le A9.lt (Nat.le_trans (Nat.le_trans (Nat.le_trans (Nat.le_trans (Nat.le_trans E11.1 E13.1) (Keep.of_wr W15).1) (Keep.of_wr W17).1) K19.1) E21.1)) g23.symm))).other W43 (Nat.ne_of_lt (Nat.lt_of_lt_of_eq (Nat.lt_of_lt_of_le A9.lt (Nat.le_trans (Nat.le_trans (Nat.le_trans (Nat.le_trans (Nat.le_trans E11.1 E13.1) (Keep.of_wr W15).1) (Keep.of_wr W17).1) K19.1) E21.1)) g23.symm))).other W45 (Nat.ne_of_lt (Nat.lt_of_lt_of_eq (Nat.lt_of_lt_of_le A9.lt (Nat.le_trans (Nat.le_trans (Nat.le_trans (Nat.le_trans (Nat.le_trans E11.1 E13.1) (Keep.of_wr W15).1) (Keep.of_wr W17).1) K19.1) E21.1)) g23.symm))).other W47 (Nat.ne_of_lt (Nat.lt_of_lt_of_eq (Nat.lt_of_lt_of_le A9.lt (Nat.le_trans (Nat.le_trans (Nat.le_trans (Nat.le_trans (Nat.le_trans E11.1 E13.1) (Keep.of_wr W15).1) (Keep.of_wr W17).1) K19.1) E21.1)) g23.symm))).other W49 (Nat.ne_of_lt (Nat.lt_of_lt_of_eq (Nat.lt_of_lt_of_le A9.lt (Nat.le_trans (Nat.le_trans (Nat.le_trans (Nat.le_trans (Nat.le_trans E11.1 E13.1) (Keep.of_wr W15).1) (Keep.of_wr W17).1) K19.1) E21.1)) g23.symm))).other W51 (Nat.ne_of_lt (Nat.lt_of_lt_of_eq (Nat.lt_of_lt_of_le A9.lt (Nat.le_trans (Nat.le_trans (Nat.le_trans (Nat.le_trans (Nat.le_trans E11.1 E13.1) (Keep.of_wr W15).1) (Keep.of_wr W17).1) K19.1) E21.1)) g23.symm))).other W53 (Nat.ne_of_lt (Nat.lt_of_lt_of_eq (Nat.lt_of_lt_of_le A9.lt (Nat.le_trans (Nat.le_trans (Nat.le_trans (Nat.le_trans (Nat.le_trans E11.1 E13.1) (Keep.of_wr W15).1) (Keep.of_wr W17).1) K19.1) E21.1)) g23.symm))).other W55 (Nat.ne_of_lt (Nat.lt_of_lt_of_eq (Nat.lt_of_lt_of_le A9.lt (Nat.le_trans (Nat.le_trans (Nat.le_trans (Nat.le_trans (Nat.le_trans E11.1 E13.1) (Keep.of_wr W15).1) (Keep.of_wr W17).1) K19.1) E21.1)) g23.symm))).other W57 (Nat.ne_of_lt (Nat.lt_of_lt_of_eq (Nat.lt_of_lt_of_le A9.lt (Nat.le_trans (Nat.le_trans (Nat.le_trans (Nat.le_trans (Nat.le_trans E11.1 E13.1) (Keep.of_wr W15).1) (Keep.of_wr W17).1) K19.1) E21.1)) g23.symm))).other W59 (Nat.ne_of_lt (Nat.lt_of_lt_of_eq (Nat.lt_of_lt_of_le A9.lt (Nat.le_trans (Nat.le_trans (Nat.le_trans (Nat.le_trans (Nat.le_trans E11.1 E13.1) (Keep.of_wr W15).1) (Keep.of_wr W17).1) K19.1) E21.1)) g23.symm))).keep K61 (ninS (Nat.ne_of_lt (Nat.lt_of_lt_of_eq (Nat.lt_of_lt_of_le A9.lt (Nat.le_trans (Nat.le_trans (Nat.le_trans (Nat.le_trans E11.1 E13.1) (Keep.of_wr W15).1) (Keep.of_wr W17).1) K19.1)) g21.symm)) nin0)) rfl (((((((((((((((((((((E19.ext E21).ext E23).wr W25).wr W27).wr W29).wr W31).wr W33).wr W35).wr W37).wr W39).wr W41).wr W43).wr W45).wr W47).wr W49).wr W51).wr W53).wr W55).wr W57).wr W59).keep K61) (((((((((((((((((((((F19.ext E21).ext E23).other W25 (Or.inl (Nat.ne_of_lt (Nat.lt_of_lt_of_eq (Nat.lt_of_lt_of_le A11.lt (Nat.le_trans (Nat.le_trans (Nat.le_trans (Nat.le_trans E13.1 (Keep.of_wr W15).1) (Keep.of_wr W17).1) K19.1) E21.1)) g23.symm)))).other W27 (Or.inl (Nat.ne_of_lt (Nat.lt_of_lt_of_eq (Nat.lt_of_lt_of_le A11.lt (Nat.le_trans (Nat.le_trans (Nat.le_trans (Nat.le_trans E13.1 (Keep.of_wr W15).1) (Keep.of_wr W17).1) K19.1) E21.1)) g23.symm)))).other W29 (Or.inl (Nat.ne_of_lt (Nat.lt_of_lt_of_eq (Nat.lt_of_lt_of_le A11.lt (Nat.le_trans (Nat.le_trans (Nat.le_trans (Nat.le_trans E13.1 (Keep.of_wr W15).1) (Keep.of_wr W17).1) K19.1) E21.1)) g23.symm)))).other W31 (Or.inl (Nat.ne_of_lt (Nat.lt_of_lt_of_eq (Nat.lt_of_lt_of_le A11.lt (Nat.le_trans (Nat.le_trans (Nat.le_trans (Nat.le_trans E13.1 (Keep.of_wr W15).1) (Keep.of_wr W17).1) K19.1) E21.1)) g23.symm)))).other W33 (Or.inl (Nat.ne_of_lt (Nat.lt_of_lt_of_eq (Nat.lt_of_lt_of_le A11.lt (Nat.le_trans (Nat.le_trans (Nat.le_trans (Nat.le_trans E13.1 (Keep.of_wr W15).1) (Keep.of_wr W17).1) K19.1) E21.1)) g23.symm)))).other W35 (Or.inl (Nat.ne_of_lt (Nat.lt_of_lt_of_eq (Nat.lt_of_lt_of_le A11.lt (Nat.le_trans (Nat.le_trans (Nat.le_trans (Nat.le_trans E13.1 (Keep.of_wr W15).1) (Keep.of_wr W17).1) K19.1) E21.1)) g23.symm)))).other W37 (Or.inl (Nat.ne_of_lt (Nat.lt_of_lt_of_eq (Nat.lt_of_lt_of_le A11.lt (Nat.le_trans (Nat.le_trans (Nat.le_trans (Nat.le_trans E13.1 (Keep.of_wr W15).1) (Keep.of_wr W17).1) K19.1) E21.1)) g23.symm)))).other W39 (Or.inl (Nat.ne_of_lt (Nat.lt_of_lt_of_eq (Nat.lt_of_lt_of_le A11.lt (Nat.le_trans (Nat.le_trans (Nat.le_trans (Nat.le_trans E13.1 (Keep.of_wr W15).1) (Keep.of_wr W17).1) K19.1) E21.1)) g23.symm)))).other W41 (Or.inl (Nat.ne_of_lt (Nat.lt_of_lt_of_eq (Nat.lt_of_lt_of_le A11.lt (Nat.le_trans (Nat.le_trans (Nat.le_trans (Nat.le_trans E13.1 (Keep.of_wr W15).1) (Keep.of_wr W17).1) K19.1) E21.1)) g23.symm)))).other W43 (Or.inl (Nat.ne_of_lt (Nat.lt_of_lt_of_eq (Nat.lt_of_lt_of_le A11.lt (Nat.le_trans (Nat.le_trans (Nat.le_trans (Nat.le_trans E13.1 (Keep.of_wr W15).1) (Keep.of_wr W17).1) K19.1) E21.1)) g23.symm)))).other W45 (Or.inl (Nat.ne_of_lt (Nat.lt_of_lt_of_eq (Nat.lt_of_lt_of_le A11.lt (Nat.le_trans (Nat.le_trans (Nat.le_trans (Nat.le_trans E13.1 (Keep.of_wr W15).1) (Keep.of_wr W17).1) K19.1) E21.1)) g23.symm)))).other W47 (Or.inl (Nat.ne_of_lt (Nat.lt_of_lt_of_eq (Nat.lt_of_lt_of_le A11.lt (Nat.le_trans (Nat.le_trans (Nat.le_trans (Nat.le_trans E13.1 (Keep.of_wr W15).1) (Keep.of_wr W17).1) K19.1) E21.1)) g23.symm)))).other W49 (Or.inl (Nat.ne_of_lt (Nat.lt_of_lt_of_eq (Nat.lt_of_lt_of_le A11.lt (Nat.le_trans (Nat.le_trans (Nat.le_trans (Nat.le_trans E13.1 (Keep.of_wr W15).1) (Keep.of_wr W17).1) K19.1) E21.1)) g23.symm)))).other W51 (Or.inl (Nat.ne_of_lt (Nat.lt_of_lt_of_eq (Nat.lt_of_lt_of_le A11.lt (Nat.le_trans (Nat.le_trans (Nat.le_trans (Nat.le_trans E13.1 (Keep.of_wr W15).1) (Keep.of_wr W17).1) K19.1) E21.1)) g23.symm)))).other W53 (Or.inl (Nat.ne_of_lt (Nat.lt_of_lt_of_eq (Nat.lt_of_lt_of_le A11.lt (Nat.le_trans (Nat.le_trans (Nat.le_trans (Nat.le_trans E13.1 (Keep.of_wr W15).1) (Keep.of_wr W17).1) K19.1) E21.1)) g23.symm)))).other W55 (Or.inl (Nat.ne_of_lt (Nat.lt_of_lt_of_eq (Nat.lt_of_lt_of_le A11.lt (Nat.le_trans (Nat.le_trans (Nat.le_trans (Nat.le_trans E13.1 (Keep.of_wr W15).1) (Keep.of_wr W17).1) K19.1) E21.1)) g23.symm)))).other W57 (Or.inl (Nat.ne_of_lt (Nat.lt_of_lt_of_eq (Nat.lt_of_lt_of_le A11.lt (Nat.le_trans (Nat.le_trans (Nat.le_trans (Nat.le_trans E13.1 (Keep.of_wr W15).1) (Keep.of_wr W17).1) K19.1) E21.1)) g23.symm)))).other W59 (Or.inl (Nat.ne_of_lt (Nat.lt_of_lt_of_eq (Nat.lt_of_lt_of_le A11.lt (Nat.le_trans (Nat.le_trans (Nat.le_trans (Nat.le_trans E13.1 (Keep.of_wr W15).1) (Keep.of_wr W17).1) K19.1) E21.1)) g23.symm)))).keep K61 (ninS (Nat.ne_of_lt (Nat.lt_of_lt_of_eq (Nat.lt_of_lt_of_le A11.lt (Nat.le_trans (Nat.le_trans (Nat.le_trans E13.1 (Keep.of_wr W15).1) (Keep.of_wr W17).1) K19.1)) g21.symm)) nin0)) (((((((((((((((((((((C19.ext E21).ext E23).other W25 (Or.inl (Nat.ne_of_lt (Nat.lt_of_lt_of_eq (Nat.lt_of_lt_of_le A11.lt (Nat.le_trans (Nat.le_trans (Nat.le_trans (Nat.le_trans E13.1 (Keep.of_wr W15).1) (Keep.of_wr W17).1) K19.1) E21.1)) g23.symm)))).other W27 (Or.inl (Nat.ne_of_lt (Nat.lt_of_lt_of_eq (Nat.lt_of_lt_of_le A11.lt (Nat.le_trans (Nat.le_trans (Nat.le_trans (Nat.le_trans E13.1 (Keep.of_wr W15).1) (Keep.of_wr W17).1) K19.1) E21.1)) g23.symm)))).other W29 (Or.inl (Nat.ne_of_lt (Nat.lt_of_lt_of_eq (Nat.lt_of_lt_of_le A11.lt (Nat.le_trans (Nat.le_trans (Nat.le_trans (Nat.le_trans E13.1 (Keep.of_wr W15).1) (Keep.of_wr W17).1) K19.1) E21.1)) g23.symm)))).other W31 (Or.inl (Nat.ne_of_lt (Nat.lt_of_lt_of_eq (Nat.lt_of_lt_of_le A11.lt (Nat.le_trans (Nat.le_trans (Nat.le_trans (Nat.le_trans E13.1 (Keep.of_wr W15).1) (Keep.of_wr W17).1) K19.1) E21.1)) g23.symm)))).other W33 (Or.inl (Nat.ne_of_lt (Nat.lt_of_lt_of_eq (Nat.lt_of_lt_of_le A11.lt (Nat.le_trans (Nat.le_trans (Nat.le_trans (Nat.le_trans E13.1 (Keep.of_wr W15).1) (Keep.of_wr W17).1) K19.1) E21.1)) g23.symm)))).other W35 (Or.inl (Nat.ne_of_lt (Nat.lt_of_lt_of_eq (Nat.lt_of_lt_of_le A11.lt (Nat.le_trans (Nat.le_trans (Nat.le_trans (Nat.le_trans E13.1 (Keep.of_wr W15).1) (Keep.of_wr W17).1) K19.1) E21.1)) g23.symm)))).other W37 (Or.inl (Nat.ne_of_lt (Nat.lt_of_lt_of_eq (Nat.lt_of_lt_of_le A11.lt (Nat.le_trans (Nat.le_trans (Nat.le_trans (Nat.le_trans E13.1 (Keep.of_wr W15).1) (Keep.of_wr W17).1) K19.1) E21.1)) g23.symm)))).other W39 (Or.inl (Nat.ne_of_lt (Nat.lt_of_lt_of_eq (Nat.lt_of_lt_of_le A11.lt (Nat.le_trans (Nat.le_trans (Nat.le_trans (Nat.le_trans E13.1 (Keep.of_wr W15).1) (Keep.of_wr W17).1) K19.1) E21.1)) g23.symm)))).other W41 (Or.inl (Nat.ne_of_lt (Nat.lt_of_lt_of_eq (Nat.lt_of_lt_of_le A11.lt (Nat.le_trans (Nat.le_trans (Nat.le_trans (Nat.le_trans E13.1 (Keep.of_wr W15).1) (Keep.of_wr W17).1) K19.1) E21.1)) g23.symm)))).other W43 (Or.inl (Nat.ne_of_lt (Nat.lt_of_lt_of_eq (Nat.lt_of_lt_of_le A11.lt (Nat.le_trans (Nat.le_trans (Nat.le_trans (Nat.le_trans E13.1 (Keep.of_wr W15).1) (Keep.of_wr W17).1) K19.1) E21.1)) g23.symm)))).other W45 (Or.inl (Nat.ne_of_lt (Nat.lt_of_lt_of_eq (Nat.lt_of_lt_of_le A11.lt (Nat.le_trans (Nat.le_trans (Nat.le_trans (Nat.le_trans E13.1 (Keep.of_wr W15).1) (Keep.of_wr W17).1) K19.1) E21.1)) g23.symm)))).other W47 (Or.inl (Nat.ne_of_lt (Nat.lt_of_lt_of_eq (Nat.lt_of_lt_of_le A11.lt (Nat.le_trans (Nat.le_trans (Nat.le_trans (Nat.le_trans E13.1 (Keep.of_wr W15).1) (Keep.of_wr W17).1) K19.1) E21.1)) g23.symm)))).other W49 (Or.inl (Nat.ne_of_lt (Nat.lt_of_lt_of_eq (Nat.lt_of_lt_of_le A11.lt (Nat.le_trans (Nat.le_trans (Nat.le_trans (Nat.le_trans E13.1 (Keep.of_wr W15).1) (Keep.of_wr W17).1) K19.1) E21.1)) g23.symm)))).other W51 (Or.inl (Nat.ne_of_lt (Nat.lt_of_lt_of_eq (Nat.lt_of_lt_of_le A11.lt (Nat.le_trans (Nat.le_trans (Nat.le_trans (Nat.le_trans E13.1 (Keep.of_wr W15).1) (Keep.of_wr W17).1) K19.1) E21.1)) g23.symm)))).other W53 (Or.inl (Nat.ne_of_lt (Nat.lt_of_lt_of_eq (Nat.lt_of_lt_of_le A11.lt (Nat.le_trans (Nat.le_trans (Nat.le_trans (Nat.le_trans E13.1 (Keep.of_wr W15).1) (Keep.of_wr W17).1) K19.1) E21.1)) g23.symm)))).other W55 (Or.inl (Nat.ne_of_lt (Nat.lt_of_lt_of_eq (Nat.lt_of_lt_of_le A11.lt (Nat.le_trans (Nat.le_trans (Nat.le_trans (Nat.le_trans E13.1 (Keep.of_wr W15).1) (Keep.of_wr W17).1) K19.1) E21.1)) g23.symm)))).other W57 (Or.inl (Nat.ne_of_lt (Nat.lt_of_lt_of_eq (Nat.lt_of_lt_of_le A11.lt (Nat.le_trans (Nat.le_trans (Nat.le_trans (Nat.le_trans E13.1 (Keep.of_wr W15).1) (Keep.of_wr W17).1) K19.1) E21.1)) g23.symm)))).other W59 (Or.inl (Nat.ne_of_lt (Nat.lt_of_lt_of_eq (Nat.lt_of_lt_of_le A11.lt (Nat.le_trans (Nat.le_trans (Nat.le_trans (Nat.le_trans E13.1 (Keep.of_wr W15).1) (Keep.of_wr W17).1) K19.1) E21.1)) g23.symm)))).keep K61 (ninS (Nat.ne_of_lt (Nat.lt_of_lt_of_eq (Nat.lt_of_lt_of_le A11.lt (Nat.le_trans (Nat.le_trans (Nat.le_trans E13.1 (Keep.of_wr W15).1) (Keep.of_wr W17).1) K19.1)) g21.symm)) nin0)) (((((((((((((((((((((A19.ext E21).ext E23).other W25 (Nat.ne_of_lt (Nat.lt_of_lt_of_eq (Nat.lt_of_lt_of_le A19.lt E21.1) g23.symm))).other W27 (Nat.ne_of_lt (Nat.lt_of_lt_of_eq (Nat.lt_of_lt_of_le A19.lt E21.1) g23.symm))).other W29 (Nat.ne_of_lt (Nat.lt_of_lt_of_eq (Nat.lt_of_lt_of_le A19.lt E21.1) g23.symm))).other W31 (Nat.ne_of_lt (Nat.lt_of_lt_of_eq (Nat.lt_of_lt_of_le A19.lt E21.1) g23.symm))).other W33 (Nat.ne_of_lt (Nat.lt_of_lt_of_eq (Nat.lt_of_lt_of_le A19.lt E21.1) g23.symm))).other W35 (Nat.ne_of_lt (Nat.lt_of_lt_of_eq (Nat.lt_of_lt_of_le A19.lt E21.1) g23.symm))).other W37 (Nat.ne_of_lt (Nat.lt_of_lt_of_eq (Nat.lt_of_lt_of_le A19.lt E21.1) g23.symm))).other W39 (Nat.ne_of_lt (Nat.lt_of_lt_of_eq (Nat.lt_of_lt_of_le A19.lt E21.1) g23.symm))).other W41 (Nat.ne_of_lt (Nat.lt_of_lt_of_eq (Nat.lt_of_lt_of_le A19.lt E21.1) g23.symm))).other W43 (Nat.ne_of_lt (Nat.lt_of_lt_of_eq (Nat.lt_of_lt_of_le A19.lt E21.1) g23.symm))).other W45 (Nat.ne_of_lt (Nat.lt_of_lt_of_eq (Nat.lt_of_lt_of_le A19.lt E21.1) g23.symm))).other W47 (Nat.ne_of_lt (Nat.lt_of_lt_of_eq (Nat.lt_of_lt_of_le A19.lt E21.1) g23.symm))).other W49 (Nat.ne_of_lt (Nat.lt_of_lt_of_eq (Nat.lt_of_lt_of_le A19.lt E21.1) g23.symm))).other W51 (Nat.ne_of_lt (Nat.lt_of_lt_of_eq (Nat.lt_of_lt_of_le A19.lt E21.1) g23.symm))).other W53 (Nat.ne_of_lt (Nat.lt_of_lt_of_eq (Nat.lt_of_lt_of_le A19.lt E21.1) g23.symm))).other W55 (Nat.ne_of_lt (Nat.lt_of_lt_of_eq (Nat.lt_of_lt_of_le A19.lt E21.1) g23.symm))).other W57 (Nat.ne_of_lt (Nat.lt_of_lt_of_eq (Nat.lt_of_lt_of_le A19.lt E21.1) g23.symm))).other W59 (Nat.ne_of_lt (Nat.lt_of_lt_of_eq (Nat.lt_of_lt_of_le A19.lt E21.1) g23.symm))).keep K61 (ninS (Nat.ne_of_lt (Nat.lt_of_lt_of_eq A19.lt g21.symm)) nin0)) rfl (Nat.le_trans Z0 (Nat.le_trans (Nat.le_trans (Nat.le_trans (Nat.le_trans (Nat.le_trans (Nat.le_trans (Nat.le_trans (Nat.le_trans (Nat.le_trans (Nat.le_trans (Nat.le_trans (Nat.le_trans (Nat.le_trans (Nat.le_trans (Nat.le_trans (Nat.le_trans (Nat.le_trans (Nat.le_trans (Nat.le_trans (Nat.le_trans (Nat.le_trans (Nat.le_trans (Nat.le_trans (Nat.le_trans (Nat.le_trans (Nat.le_trans (Nat.le_trans (Nat.le_trans (Nat.le_trans (Nat.le_trans E1.1 E3.1) (Keep.of_wr W5).1) (Keep.of_wr W7).1) K9.1) E11.1) E13.1) (Keep.of_wr W15).1) (Keep.of_wr W17).1) K19.1) E21.1) E23.1) (Keep.of_wr W25).1) (Keep.of_wr W27).1) (Keep.of_wr W29).1) (Keep.of_wr W31).1) (Keep.of_wr W33).1) (Keep.of_wr W35).1) (Keep.of_wr W37).1) (Keep.of_wr W39).1) (Keep.of_wr W41).1) (Keep.of_wr W43).1) (Keep.of_wr W45).1) (Keep.of_wr W47).1) (Keep.of_wr W49).1) (Keep.of_wr W51).1) (Keep.of_wr W53).1) (Keep.of_wr W55).1) (Keep.of_wr W57).1) (Keep.of_wr W59).1) K61.1)) (((((((((((((((((((((((((((((((X00.ext E1).ext E3).wr W5 (Nat.le_trans (Nat.le_trans Z0 E1.1) (Nat.le_of_eq g3.symm))).wr W7 (Nat.le_trans (Nat.le_trans Z0 E1.1) (Nat.le_of_eq g3.symm))).keep K9 (allS (Nat.le_trans Z0 (Nat.le_of_eq g1.symm)) all0)).ext E11).ext E13).wr W15 (Nat.le_trans (Nat.le_trans Z0 (Nat.le_trans (Nat.le_trans (Nat.le_trans (Nat.le_trans (Nat.le_trans E1.1 E3.1) (Keep.of_wr W5).1) (Keep.of_wr W7).1) K9.1) E11.1)) (Nat.le_of_eq g13.symm))).wr W17 (Nat.le_trans (Nat.le_trans Z0 (Nat.le_trans (Nat.le_trans (Nat.le_trans (Nat.le_trans (Nat.le_trans E1.1 E3.1) (Keep.of_wr W5).1) (Keep.of_wr W7).1) K9.1) E11.1)) (Nat.le_of_eq g13.symm))).keep K19 (allS (Nat.le_trans (Nat.le_trans Z0 (Nat.le_trans (Nat.le_trans (Nat.le_trans (Nat.le_trans E1.1 E3.1) (Keep.of_wr W5).1) (Keep.of_wr W7).1) K9.1)) (Nat.le_of_eq g11.symm)) all0)).ext E21).ext E23).wr W25 (Nat.le_trans (Nat.le_trans Z0 (Nat.le_trans (Nat.le_trans (Nat.le_trans (Nat.le_trans (Nat.le_trans (Nat.le_trans (Nat.le_trans (Nat.le_trans (Nat.le_trans (Nat.le_trans E1.1 E3.1) (Keep.of_wr W5).1) (Keep.of_wr W7).1) K9.1) E11.1) E13.1) (Keep.of_wr W15).1) (Keep.of_wr W17).1) K19.1) E21.1)) (Nat.le_of_eq g23.symm))).wr W27 (Nat.le_trans (Nat.le_trans Z0 (Nat.le_trans (Nat.le_trans (Nat.le_trans (Nat.le_trans (Nat.le_trans (Nat.le_trans (Nat.le_trans (Nat.le_trans (Nat.le_trans (Nat.le_trans E1.1 E3.1) (Keep.of_wr W5).1) (Keep.of_wr W7).1) K9.1) E11.1) E13.1) (Keep.of_wr W15).1) (Keep.of_wr W17).1) K19.1) E21.1)) (Nat.le_of_eq g23.symm))).wr W29 (Nat.le_trans (Nat.le_trans Z0 (Nat.le_trans (Nat.le_trans (Nat.le_trans (Nat.le_trans (Nat.le_trans (Nat.le_trans (Nat.le_trans (Nat.le_trans (Nat.le_trans (Nat.le_trans E1.1 E3.1) (Keep.of_wr W5).1) (Keep.of_wr W7).1) K9.1) E11.1) E13.1) (Keep.of_wr W15).1) (Keep.of_wr W17).1) K19.1) E21.1)) (Nat.le_of_eq g23.symm))).wr W31 (Nat.le_trans (Nat.le_trans Z0 (Nat.le_trans (Nat.le_trans (Nat.le_trans (Nat.le_trans (Nat.le_trans (Nat.le_trans (Nat.le_trans (Nat.le_trans (Nat.le_trans (Nat.le_trans E1.1 E3.1) (Keep.of_wr W5).1) (Keep.of_wr W7).1) K9.1) E11.1) E13.1) (Keep.of_wr W15).1) (Keep.of_wr W17).1) K19.1) E21.1)) (Nat.le_of_eq g23.symm))).wr W33 (Nat.le_trans (Nat.le_trans Z0 (Nat.le_trans (Nat.le_trans (Nat.le_trans (Nat.le_trans (Nat.le_trans (Nat.le_trans (Nat.le_trans (Nat.le_trans (Nat.le_trans (Nat.le_trans E1.1 E3.1) (Keep.of_wr W5).1) (Keep.of_wr W7).1) K9.1) E11.1) E13.1) (Keep.of_wr W15).1) (Keep.of_wr W17).1) K19.1) E21.1)) (Nat.le_of_eq g23.symm))).wr W35 (Nat.le_trans (Nat.le_trans Z0 (Nat.le_trans (Nat.le_trans (Nat.le_trans (Nat.le_trans (Nat.le_trans (Nat.le_trans (Nat.le_trans (Nat.le_trans (Nat.le_trans (Nat.le_trans E1.1 E3.1) (Keep.of_wr W5).1) (Keep.of_wr W7).1) K9.1) E11.1) E13.1) (Keep.of_wr W15).1) (Keep.of_wr W17).1) K19.1) E21.1)) (Nat.le_of_eq g23.symm))).wr W37 (Nat.le_trans (Nat.le_trans Z0 (Nat.le_trans (Nat.le_trans (Nat.le_trans (Nat.le_trans (Nat.le_trans (Nat.le_trans (Nat.le_trans (Nat.le_trans (Nat.le_trans (Nat.le_trans E1.1 E3.1) (Keep.of_wr W5).1) (Keep.of_wr W7).1) K9.1) E11.1) E13.1) (Keep.of_wr W15).1) (Keep.of_wr W17).1) K19.1) E21.1)) (Nat.le_of_eq g23.symm))).wr W39 (Nat.le_trans (Nat.le_trans Z0 (Nat.le_trans (Nat.le_trans (Nat.le_trans (Nat.le_trans (Nat.le_trans (Nat.le_trans (Nat.le_trans (Nat.le_trans (Nat.le_trans (Nat.le_trans E1.1 E3.1) (Keep.of_wr W5).1) (Keep.of_wr W7).1) K9.1) E11.1) E13.1) (Keep.of_wr W15).1) (Keep.of_wr W17).1) K19.1) E21.1)) (Nat.le_of_eq g23.symm))).wr W41 (Nat.le_trans (Nat.le_trans Z0 (Nat.le_trans (Nat.le_trans (Nat.le_trans (Nat.le_trans (Nat.le_trans (Nat.le_trans (Nat.le_trans (Nat.le_trans (Nat.le_trans (Nat.le_trans E1.1 E3.1) (Keep.of_wr W5).1) (Keep.of_wr W7).1) K9.1) E11.1) E13.1) (Keep.of_wr W15).1) (Keep.of_wr W17).1) K19.1) E21.1)) (Nat.le_of_eq g23.symm))).wr W43 (Nat.le_trans (Nat.le_trans Z0 (Nat.le_trans (Nat.le_trans (Nat.le_trans (Nat.le_trans (Nat.le_trans (Nat.le_trans (Nat.le_trans (Nat.le_trans (Nat.le_trans (Nat.le_trans E1.1 E3.1) (Keep.of_wr W5).1) (Keep.of_wr W7).1) K9.1) E11.1) E13.1) (Keep.of_wr W15).1) (Keep.of_wr W17).1) K19.1) E21.1)) (Nat.le_of_eq g23.symm))).wr W45 (Nat.le_trans (Nat.le_trans Z0 (Nat.le_trans (Nat.le_trans (Nat.le_trans (Nat.le_trans (Nat.le_trans (Nat.le_trans (Nat.le_trans (Nat.le_trans (Nat.le_trans (Nat.le_trans E1.1 E3.1) (Keep.of_wr W5).1) (Keep.of_wr W7).1) K9.1) E11.1) E13.1) (Keep.of_wr W15).1) (Keep.of_wr W17).1) K19.1) E21.1)) (Nat.le_of_eq g23.symm))).wr W47 (Nat.le_trans (Nat.le_trans Z0 (Nat.le_trans (Nat.le_trans (Nat.le_trans (Nat.le_trans (Nat.le_trans (Nat.le_trans (Nat.le_trans (Nat.le_trans (Nat.le_trans (Nat.le_trans E1.1 E3.1) (Keep.of_wr W5).1) (Keep.of_wr W7).1) K9.1) E11.1) E13.1) (Keep.of_wr W15).1) (Keep.of_wr W17).1) K19.1) E21.1)) (Nat.le_of_eq g23.symm))).wr W49 (Nat.le_trans (Nat.le_trans Z0 (Nat.le_trans (Nat.le_trans (Nat.le_trans (Nat.le_trans (Nat.le_trans (Nat.le_trans (Nat.le_trans (Nat.le_trans (Nat.le_trans (Nat.le_trans E1.1 E3.1) (Keep.of_wr W5).1) (Keep.of_wr W7).1) K9.1) E11.1) E13.1) (Keep.of_wr W15).1) (Keep.of_wr W17).1) K19.1) E21.1)) (Nat.le_of_eq g23.symm))).wr W51 (Nat.le_trans (Nat.le_trans Z0 (Nat.le_trans (Nat.le_trans (Nat.le_trans (Nat.le_trans (Nat.le_trans (Nat.le_trans (Nat.le_trans (Nat.le_trans (Nat.le_trans (Nat.le_trans E1.1 E3.1) (Keep.of_wr W5).1) (Keep.of_wr W7).1) K9.1) E11.1) E13.1) (Keep.of_wr W15).1) (Keep.of_wr W17).1) K19.1) E21.1)) (Nat.le_of_eq g23.symm))).wr W53 (Nat.le_trans (Nat.le_trans Z0 (Nat.le_trans (Nat.le_trans (Nat.le_trans (Nat.le_trans (Nat.le_trans (Nat.le_trans (Nat.le_trans (Nat.le_trans (Nat.le_trans (Nat.le_trans E1.1 E3.1) (Keep.of_wr W5).1) (Keep.of_wr W7).1) K9.1) E11.1) E13.1) (Keep.of_wr W15).1) (Keep.of_wr W17).1) K19.1) E21.1)) (Nat.le_of_eq g23.symm))).wr W55 (Nat.le_trans (Nat.le_trans Z0 (Nat.le_trans (Nat.le_trans (Nat.le_trans (Nat.le_trans (Nat.le_trans (Nat.le_trans (Nat.le_trans (Nat.le_trans (Nat.le_trans (Nat.le_trans E1.1 E3.1) (Keep.of_wr W5).1) (Keep.of_wr W7).1) K9.1) E11.1) E13.1) (Keep.of_wr W15).1) (Keep.of_wr W17).1) K19.1) E21.1)) (Nat.le_of_eq g23.symm))).wr W57 (Nat.le_trans (Nat.le_trans Z0 (Nat.le_trans (Nat.le_trans (Nat.le_trans (Nat.le_trans (Nat.le_trans (Nat.le_trans (Nat.le_trans (Nat.le_trans (Nat.le_trans (Nat.le_trans E1.1 E3.1) (Keep.of_wr W5).1) (Keep.of_wr W7).1) K9.1) E11.1) E13.1) (Keep.of_wr W15).1) (Keep.of_wr W17).1) K19.1) E21.1)) (Nat.le_of_eq g23.symm))).wr W59 (Nat.le_trans (Nat.le_trans Z0 (Nat.le_trans (Nat.le_trans (Nat.le_trans (Nat.le_trans (Nat.le_trans (Nat.le_trans (Nat.le_trans (Nat.le_trans (Nat.le_trans (Nat.le_trans E1.1 E3.1) (Keep.of_wr W5).1) (Keep.of_wr W7).1) K9.1) E11.1) E13.1) (Keep.of_wr W15).1) (Keep.of_wr W17).1) K19.1) E21.1)) (Nat.le_of_eq g23.symm))).keep K61 (allS (Nat.le_trans (Nat.le_trans Z0 (Nat.le_trans (Nat.le_trans (Nat.le_trans (Nat.le_trans (Nat.le_trans (Nat.le_trans (Nat.le_trans (Nat.le_trans (Nat.le_trans E1.1 E3.1) (Keep.of_wr W5).1) (Keep.of_wr W7).1) K9.1) E11.1) E13.1) (Keep.of_wr W15).1) (Keep.of_wr W17).1) K19.1)) (Nat.le_of_eq g21.symm)) all0)) O hz hl u0 u1 S0 hu0 S1 hu1) w62 (hw _ (List.mem_of_getElem? (i := 33) rfl)) (hw _ (List.mem_of_getElem? (i := 32) rfl)) (by decide) (by decide) hEL all0 (w62.knM hTK) (w62.knF hBelow)
  obtain ⟨_, L64, T64, X64, ⟨N64q, K64, f64, x64, t64, kt64, rfl, E64, D64, R64, Em64, F64, Cd64, V64⟩, w64, C64, st64⟩ := own_cSW X61 hx w62 (hw _ (List.mem_of_getElem? (i := 30) rfl)) (hw _ (List.mem_of_getElem? (i := 31) rfl)) (hw _ (List.mem_of_getElem? (i := 32) rfl)) (hw _ (List.mem_of_getElem? (i := 33) rfl)) (by decide) rfl (h := T61.heap) (argsL := [(.ref b1), (.ref b11)]) (rest := []) K63 (pc := 195) (Ls := #[.val (.int p0), .val (.int p1), .val (.int ((p0 &&& (255 : Int32)).toUInt32.toUInt16.toUInt32.toInt32)), .val (.int ((((p0.toUInt32 >>> ((8 : Int32) &&& 31).toUInt32).toInt32) &&& (255 : Int32)).toUInt32.toUInt16.toUInt32.toInt32)), .val (.int ((p1 &&& (255 : Int32)).toUInt32.toUInt16.toUInt32.toInt32)), .val (.int ((((p1.toUInt32 >>> ((8 : Int32) &&& 31).toUInt32).toInt32) &&& (255 : Int32)).toUInt32.toUInt16.toUInt32.toInt32)), .val (.ref b1), .val (.ref b11), .val (.ref b21), .unset, .unset]) (by rw [hml]; rfl) (lenOf own_pd22 rfl) rfl (Nat.le_of_eq rfl) (hb hby at_195) (by decide) (by decide)
  have N64 := Fr.app N61 N64q
  refine own_stW (g' := (mkF m 198 #[.val (.int p0), .val (.int p1), .val (.int ((p0 &&& (255 : Int32)).toUInt32.toUInt16.toUInt32.toInt32)), .val (.int ((((p0.toUInt32 >>> ((8 : Int32) &&& 31).toUInt32).toInt32) &&& (255 : Int32)).toUInt32.toUInt16.toUInt32.toInt32)), .val (.int ((p1 &&& (255 : Int32)).toUInt32.toUInt16.toUInt32.toInt32)), .val (.int ((((p1.toUInt32 >>> ((8 : Int32) &&& 31).toUInt32).toInt32) &&& (255 : Int32)).toUInt32.toUInt16.toUInt32.toInt32)), .val (.ref b1), .val (.ref b11), .val (.ref b21), .unset, .unset] [(.ref f64)])) st64 ?_
  refine own_stW (g' := (mkF m 202 #[.val (.int p0), .val (.int p1), .val (.int ((p0 &&& (255 : Int32)).toUInt32.toUInt16.toUInt32.toInt32)), .val (.int ((((p0.toUInt32 >>> ((8 : Int32) &&& 31).toUInt32).toInt32) &&& (255 : Int32)).toUInt32.toUInt16.toUInt32.toInt32)), .val (.int ((p1 &&& (255 : Int32)).toUInt32.toUInt16.toUInt32.toInt32)), .val (.int ((((p1.toUInt32 >>> ((8 : Int32) &&& 31).toUInt32).toInt32) &&& (255 : Int32)).toUInt32.toUInt16.toUInt32.toInt32)), .val (.ref b1), .val (.ref b11), .val (.ref b21), .val (.ref f64), .unset] [(.ref f64)])) (fun _ q => XS.astore X64.here hx rfl (hb hby at_198) rfl rfl (l' := #[.val (.int p0), .val (.int p1), .val (.int ((p0 &&& (255 : Int32)).toUInt32.toUInt16.toUInt32.toInt32)), .val (.int ((((p0.toUInt32 >>> ((8 : Int32) &&& 31).toUInt32).toInt32) &&& (255 : Int32)).toUInt32.toUInt16.toUInt32.toInt32)), .val (.int ((p1 &&& (255 : Int32)).toUInt32.toUInt16.toUInt32.toInt32)), .val (.int ((((p1.toUInt32 >>> ((8 : Int32) &&& 31).toUInt32).toInt32) &&& (255 : Int32)).toUInt32.toUInt16.toUInt32.toInt32)), .val (.ref b1), .val (.ref b11), .val (.ref b21), .val (.ref f64), .unset]) rfl (XS.aload X64.here hx rfl (hb hby at_200) rfl rfl (q))) ?_
  have K65 : own_Bk l room_1 p e below (s.setVm T64.vm) #[(.int p0), (.int p1)] (⟨"java/lang/Throwable", "getMessage", "()Ljava/lang/String;"⟩ : MethodName) 0 T64.heap #[(.ref f64)] 0 0 (fun v h L => v = some (.ref x64) ∧ L = [] ∧ h = T64.heap) := backOf (s := (s.setVm T64.vm)) (R := room_1) (W := 0) (Q := (fun v h L => v = some (.ref x64) ∧ L = [] ∧ h = T64.heap)) (rm := ({ frames := 0, cells := 0, slots := 0, locals := 0 } : Room)) (own_rm_gmsg l Z a0 hw [] f64 x64  T64.heap D64 ) w64.2.1 (hw _ (List.mem_of_getElem? (i := 225) rfl)) (hw _ (List.mem_of_getElem? (i := 179) rfl)) (by decide) (by decide)
  obtain ⟨T66, X66, e66, st66⟩ := own_pure (own_cVU X64 hx w64.2.1 w64.2.2.1 (hw _ (List.mem_of_getElem? (i := 220) rfl)) (hw _ (List.mem_of_getElem? (i := 221) rfl)) (hw _ (List.mem_of_getElem? (i := 222) rfl)) (by decide) (hw _ (List.mem_of_getElem? (i := 224) rfl)) (hw _ (List.mem_of_getElem? (i := 223) rfl)) rfl (h := T64.heap) (b := f64) E64 (argsL := []) (rest := []) K65 (pc := 202) (Ls := #[.val (.int p0), .val (.int p1), .val (.int ((p0 &&& (255 : Int32)).toUInt32.toUInt16.toUInt32.toInt32)), .val (.int ((((p0.toUInt32 >>> ((8 : Int32) &&& 31).toUInt32).toInt32) &&& (255 : Int32)).toUInt32.toUInt16.toUInt32.toInt32)), .val (.int ((p1 &&& (255 : Int32)).toUInt32.toUInt16.toUInt32.toInt32)), .val (.int ((((p1.toUInt32 >>> ((8 : Int32) &&& 31).toUInt32).toInt32) &&& (255 : Int32)).toUInt32.toUInt16.toUInt32.toInt32)), .val (.ref b1), .val (.ref b11), .val (.ref b21), .val (.ref f64), .unset]) (by rw [hml]; rfl) (lenOf own_pd19 rfl) rfl (Nat.le_of_eq rfl) (hb hby at_202) (by decide) (by decide))
  refine own_stW (g' := (mkF m 205 #[.val (.int p0), .val (.int p1), .val (.int ((p0 &&& (255 : Int32)).toUInt32.toUInt16.toUInt32.toInt32)), .val (.int ((((p0.toUInt32 >>> ((8 : Int32) &&& 31).toUInt32).toInt32) &&& (255 : Int32)).toUInt32.toUInt16.toUInt32.toInt32)), .val (.int ((p1 &&& (255 : Int32)).toUInt32.toUInt16.toUInt32.toInt32)), .val (.int ((((p1.toUInt32 >>> ((8 : Int32) &&& 31).toUInt32).toInt32) &&& (255 : Int32)).toUInt32.toUInt16.toUInt32.toInt32)), .val (.ref b1), .val (.ref b11), .val (.ref b21), .val (.ref f64), .unset] [(.ref x64)])) st66 ?_
  refine own_stW (g' := (mkF m 216 #[.val (.int p0), .val (.int p1), .val (.int ((p0 &&& (255 : Int32)).toUInt32.toUInt16.toUInt32.toInt32)), .val (.int ((((p0.toUInt32 >>> ((8 : Int32) &&& 31).toUInt32).toInt32) &&& (255 : Int32)).toUInt32.toUInt16.toUInt32.toInt32)), .val (.int ((p1 &&& (255 : Int32)).toUInt32.toUInt16.toUInt32.toInt32)), .val (.int ((((p1.toUInt32 >>> ((8 : Int32) &&& 31).toUInt32).toInt32) &&& (255 : Int32)).toUInt32.toUInt16.toUInt32.toInt32)), .val (.ref b1), .val (.ref b11), .val (.ref b21), .val (.ref f64), .val (.ref x64)] [(.ref b21), (.ref x64)])) (fun _ q => XS.astore X66.here hx rfl (hb hby at_205) rfl rfl (l' := #[.val (.int p0), .val (.int p1), .val (.int ((p0 &&& (255 : Int32)).toUInt32.toUInt16.toUInt32.toInt32)), .val (.int ((((p0.toUInt32 >>> ((8 : Int32) &&& 31).toUInt32).toInt32) &&& (255 : Int32)).toUInt32.toUInt16.toUInt32.toInt32)), .val (.int ((p1 &&& (255 : Int32)).toUInt32.toUInt16.toUInt32.toInt32)), .val (.int ((((p1.toUInt32 >>> ((8 : Int32) &&& 31).toUInt32).toInt32) &&& (255 : Int32)).toUInt32.toUInt16.toUInt32.toInt32)), .val (.ref b1), .val (.ref b11), .val (.ref b21), .val (.ref f64), .val (.ref x64)]) rfl (XS.aload X66.here hx rfl (hb hby at_207) rfl rfl (XS.ifnullNo X66.here hx rfl (hb hby at_209) rfl (XS.aload X66.here hx rfl (hb hby at_212) rfl rfl (XS.aload X66.here hx rfl (hb hby at_214) rfl rfl (q)))))) ?_
  have K67 : own_Bk l room_1 p e below (s.setVm T64.vm) #[(.int p0), (.int p1)] (⟨"java/lang/String", "equals", "(Ljava/lang/Object;)Z"⟩ : MethodName) 0 T64.heap #[(.ref x64), (.ref b21)] 0 0 (fun v h L => ((v = some (.int 1) ∧ (own_cs c0 c1 c2 c3) = (own_cs c0 c1 c2 c3)) ∨ (v = some (.int 0) ∧ ¬ (own_cs c0 c1 c2 c3) = (own_cs c0 c1 c2 c3))) ∧ L = [] ∧ h = T64.heap) := StrChars.Road.eqW (s := (s.setVm T64.vm)) (W := 0) w64.2.1 (own_heq hw) (kI := 4) (hw _ (List.mem_of_getElem? (i := 1) rfl)) Em64 F64 Cd64 V64 (own_codM hpM) (own_hb hpM) (Nat.le_of_ble_eq_true rfl) (E61.keep K64) (F61.keep K64 nin0) (C61.keep K64 nin0) (A61.keep K64 nin0) (StrChars.Road.codOf (cs := own_cs c0 c1 c2 c3) (n := 18) rfl (fun c hc => (hpM c hc).2)) (own_hb hpM) (Nat.le_of_ble_eq_true rfl) (O.ext ((((((((((((((((((((((((((((((((X00.ext E1).ext E3).wr W5 (Nat.le_trans (Nat.le_trans Z0 E1.1) (Nat.le_of_eq g3.symm))).wr W7 (Nat.le_trans (Nat.le_trans Z0 E1.1) (Nat.le_of_eq g3.symm))).keep K9 (allS (Nat.le_trans Z0 (Nat.le_of_eq g1.symm)) all0)).ext E11).ext E13).wr W15 (Nat.le_trans (Nat.le_trans Z0 (Nat.le_trans (Nat.le_trans (Nat.le_trans (Nat.le_trans (Nat.le_trans E1.1 E3.1) (Keep.of_wr W5).1) (Keep.of_wr W7).1) K9.1) E11.1)) (Nat.le_of_eq g13.symm))).wr W17 (Nat.le_trans (Nat.le_trans Z0 (Nat.le_trans (Nat.le_trans (Nat.le_trans (Nat.le_trans (Nat.le_trans E1.1 E3.1) (Keep.of_wr W5).1) (Keep.of_wr W7).1) K9.1) E11.1)) (Nat.le_of_eq g13.symm))).keep K19 (allS (Nat.le_trans (Nat.le_trans Z0 (Nat.le_trans (Nat.le_trans (Nat.le_trans (Nat.le_trans E1.1 E3.1) (Keep.of_wr W5).1) (Keep.of_wr W7).1) K9.1)) (Nat.le_of_eq g11.symm)) all0)).ext E21).ext E23).wr W25 (Nat.le_trans (Nat.le_trans Z0 (Nat.le_trans (Nat.le_trans (Nat.le_trans (Nat.le_trans (Nat.le_trans (Nat.le_trans (Nat.le_trans (Nat.le_trans (Nat.le_trans (Nat.le_trans E1.1 E3.1) (Keep.of_wr W5).1) (Keep.of_wr W7).1) K9.1) E11.1) E13.1) (Keep.of_wr W15).1) (Keep.of_wr W17).1) K19.1) E21.1)) (Nat.le_of_eq g23.symm))).wr W27 (Nat.le_trans (Nat.le_trans Z0 (Nat.le_trans (Nat.le_trans (Nat.le_trans (Nat.le_trans (Nat.le_trans (Nat.le_trans (Nat.le_trans (Nat.le_trans (Nat.le_trans (Nat.le_trans E1.1 E3.1) (Keep.of_wr W5).1) (Keep.of_wr W7).1) K9.1) E11.1) E13.1) (Keep.of_wr W15).1) (Keep.of_wr W17).1) K19.1) E21.1)) (Nat.le_of_eq g23.symm))).wr W29 (Nat.le_trans (Nat.le_trans Z0 (Nat.le_trans (Nat.le_trans (Nat.le_trans (Nat.le_trans (Nat.le_trans (Nat.le_trans (Nat.le_trans (Nat.le_trans (Nat.le_trans (Nat.le_trans E1.1 E3.1) (Keep.of_wr W5).1) (Keep.of_wr W7).1) K9.1) E11.1) E13.1) (Keep.of_wr W15).1) (Keep.of_wr W17).1) K19.1) E21.1)) (Nat.le_of_eq g23.symm))).wr W31 (Nat.le_trans (Nat.le_trans Z0 (Nat.le_trans (Nat.le_trans (Nat.le_trans (Nat.le_trans (Nat.le_trans (Nat.le_trans (Nat.le_trans (Nat.le_trans (Nat.le_trans (Nat.le_trans E1.1 E3.1) (Keep.of_wr W5).1) (Keep.of_wr W7).1) K9.1) E11.1) E13.1) (Keep.of_wr W15).1) (Keep.of_wr W17).1) K19.1) E21.1)) (Nat.le_of_eq g23.symm))).wr W33 (Nat.le_trans (Nat.le_trans Z0 (Nat.le_trans (Nat.le_trans (Nat.le_trans (Nat.le_trans (Nat.le_trans (Nat.le_trans (Nat.le_trans (Nat.le_trans (Nat.le_trans (Nat.le_trans E1.1 E3.1) (Keep.of_wr W5).1) (Keep.of_wr W7).1) K9.1) E11.1) E13.1) (Keep.of_wr W15).1) (Keep.of_wr W17).1) K19.1) E21.1)) (Nat.le_of_eq g23.symm))).wr W35 (Nat.le_trans (Nat.le_trans Z0 (Nat.le_trans (Nat.le_trans (Nat.le_trans (Nat.le_trans (Nat.le_trans (Nat.le_trans (Nat.le_trans (Nat.le_trans (Nat.le_trans (Nat.le_trans E1.1 E3.1) (Keep.of_wr W5).1) (Keep.of_wr W7).1) K9.1) E11.1) E13.1) (Keep.of_wr W15).1) (Keep.of_wr W17).1) K19.1) E21.1)) (Nat.le_of_eq g23.symm))).wr W37 (Nat.le_trans (Nat.le_trans Z0 (Nat.le_trans (Nat.le_trans (Nat.le_trans (Nat.le_trans (Nat.le_trans (Nat.le_trans (Nat.le_trans (Nat.le_trans (Nat.le_trans (Nat.le_trans E1.1 E3.1) (Keep.of_wr W5).1) (Keep.of_wr W7).1) K9.1) E11.1) E13.1) (Keep.of_wr W15).1) (Keep.of_wr W17).1) K19.1) E21.1)) (Nat.le_of_eq g23.symm))).wr W39 (Nat.le_trans (Nat.le_trans Z0 (Nat.le_trans (Nat.le_trans (Nat.le_trans (Nat.le_trans (Nat.le_trans (Nat.le_trans (Nat.le_trans (Nat.le_trans (Nat.le_trans (Nat.le_trans E1.1 E3.1) (Keep.of_wr W5).1) (Keep.of_wr W7).1) K9.1) E11.1) E13.1) (Keep.of_wr W15).1) (Keep.of_wr W17).1) K19.1) E21.1)) (Nat.le_of_eq g23.symm))).wr W41 (Nat.le_trans (Nat.le_trans Z0 (Nat.le_trans (Nat.le_trans (Nat.le_trans (Nat.le_trans (Nat.le_trans (Nat.le_trans (Nat.le_trans (Nat.le_trans (Nat.le_trans (Nat.le_trans E1.1 E3.1) (Keep.of_wr W5).1) (Keep.of_wr W7).1) K9.1) E11.1) E13.1) (Keep.of_wr W15).1) (Keep.of_wr W17).1) K19.1) E21.1)) (Nat.le_of_eq g23.symm))).wr W43 (Nat.le_trans (Nat.le_trans Z0 (Nat.le_trans (Nat.le_trans (Nat.le_trans (Nat.le_trans (Nat.le_trans (Nat.le_trans (Nat.le_trans (Nat.le_trans (Nat.le_trans (Nat.le_trans E1.1 E3.1) (Keep.of_wr W5).1) (Keep.of_wr W7).1) K9.1) E11.1) E13.1) (Keep.of_wr W15).1) (Keep.of_wr W17).1) K19.1) E21.1)) (Nat.le_of_eq g23.symm))).wr W45 (Nat.le_trans (Nat.le_trans Z0 (Nat.le_trans (Nat.le_trans (Nat.le_trans (Nat.le_trans (Nat.le_trans (Nat.le_trans (Nat.le_trans (Nat.le_trans (Nat.le_trans (Nat.le_trans E1.1 E3.1) (Keep.of_wr W5).1) (Keep.of_wr W7).1) K9.1) E11.1) E13.1) (Keep.of_wr W15).1) (Keep.of_wr W17).1) K19.1) E21.1)) (Nat.le_of_eq g23.symm))).wr W47 (Nat.le_trans (Nat.le_trans Z0 (Nat.le_trans (Nat.le_trans (Nat.le_trans (Nat.le_trans (Nat.le_trans (Nat.le_trans (Nat.le_trans (Nat.le_trans (Nat.le_trans (Nat.le_trans E1.1 E3.1) (Keep.of_wr W5).1) (Keep.of_wr W7).1) K9.1) E11.1) E13.1) (Keep.of_wr W15).1) (Keep.of_wr W17).1) K19.1) E21.1)) (Nat.le_of_eq g23.symm))).wr W49 (Nat.le_trans (Nat.le_trans Z0 (Nat.le_trans (Nat.le_trans (Nat.le_trans (Nat.le_trans (Nat.le_trans (Nat.le_trans (Nat.le_trans (Nat.le_trans (Nat.le_trans (Nat.le_trans E1.1 E3.1) (Keep.of_wr W5).1) (Keep.of_wr W7).1) K9.1) E11.1) E13.1) (Keep.of_wr W15).1) (Keep.of_wr W17).1) K19.1) E21.1)) (Nat.le_of_eq g23.symm))).wr W51 (Nat.le_trans (Nat.le_trans Z0 (Nat.le_trans (Nat.le_trans (Nat.le_trans (Nat.le_trans (Nat.le_trans (Nat.le_trans (Nat.le_trans (Nat.le_trans (Nat.le_trans (Nat.le_trans E1.1 E3.1) (Keep.of_wr W5).1) (Keep.of_wr W7).1) K9.1) E11.1) E13.1) (Keep.of_wr W15).1) (Keep.of_wr W17).1) K19.1) E21.1)) (Nat.le_of_eq g23.symm))).wr W53 (Nat.le_trans (Nat.le_trans Z0 (Nat.le_trans (Nat.le_trans (Nat.le_trans (Nat.le_trans (Nat.le_trans (Nat.le_trans (Nat.le_trans (Nat.le_trans (Nat.le_trans (Nat.le_trans E1.1 E3.1) (Keep.of_wr W5).1) (Keep.of_wr W7).1) K9.1) E11.1) E13.1) (Keep.of_wr W15).1) (Keep.of_wr W17).1) K19.1) E21.1)) (Nat.le_of_eq g23.symm))).wr W55 (Nat.le_trans (Nat.le_trans Z0 (Nat.le_trans (Nat.le_trans (Nat.le_trans (Nat.le_trans (Nat.le_trans (Nat.le_trans (Nat.le_trans (Nat.le_trans (Nat.le_trans (Nat.le_trans E1.1 E3.1) (Keep.of_wr W5).1) (Keep.of_wr W7).1) K9.1) E11.1) E13.1) (Keep.of_wr W15).1) (Keep.of_wr W17).1) K19.1) E21.1)) (Nat.le_of_eq g23.symm))).wr W57 (Nat.le_trans (Nat.le_trans Z0 (Nat.le_trans (Nat.le_trans (Nat.le_trans (Nat.le_trans (Nat.le_trans (Nat.le_trans (Nat.le_trans (Nat.le_trans (Nat.le_trans (Nat.le_trans E1.1 E3.1) (Keep.of_wr W5).1) (Keep.of_wr W7).1) K9.1) E11.1) E13.1) (Keep.of_wr W15).1) (Keep.of_wr W17).1) K19.1) E21.1)) (Nat.le_of_eq g23.symm))).wr W59 (Nat.le_trans (Nat.le_trans Z0 (Nat.le_trans (Nat.le_trans (Nat.le_trans (Nat.le_trans (Nat.le_trans (Nat.le_trans (Nat.le_trans (Nat.le_trans (Nat.le_trans (Nat.le_trans E1.1 E3.1) (Keep.of_wr W5).1) (Keep.of_wr W7).1) K9.1) E11.1) E13.1) (Keep.of_wr W15).1) (Keep.of_wr W17).1) K19.1) E21.1)) (Nat.le_of_eq g23.symm))).keep K61 (allS (Nat.le_trans (Nat.le_trans Z0 (Nat.le_trans (Nat.le_trans (Nat.le_trans (Nat.le_trans (Nat.le_trans (Nat.le_trans (Nat.le_trans (Nat.le_trans (Nat.le_trans E1.1 E3.1) (Keep.of_wr W5).1) (Keep.of_wr W7).1) K9.1) E11.1) E13.1) (Keep.of_wr W15).1) (Keep.of_wr W17).1) K19.1)) (Nat.le_of_eq g21.symm)) all0)).keep K64 all0).2) hz (by decide) (by decide)
  obtain ⟨v67, T67, hv67, X67, e67, st67⟩ := own_pureE (A := fun v => ((v = some (.int 1) ∧ (own_cs c0 c1 c2 c3) = (own_cs c0 c1 c2 c3)) ∨ (v = some (.int 0) ∧ ¬ (own_cs c0 c1 c2 c3) = (own_cs c0 c1 c2 c3)))) (own_cV X66 hx w64.2.1 w64.2.2.1 (hw _ (List.mem_of_getElem? (i := 226) rfl)) (hw _ (List.mem_of_getElem? (i := 227) rfl)) (notFace_of_selects (args := #[]) (mvT w64.2.1 (hw _ (List.mem_of_getElem? (i := 229) rfl)))) (hw _ (List.mem_of_getElem? (i := 229) rfl)) (hw _ (List.mem_of_getElem? (i := 228) rfl)) (by decide) e66 (h := T64.heap) (b := x64) Em64 (argsL := [(.ref b21)]) (rest := []) K67 (pc := 216) (Ls := #[.val (.int p0), .val (.int p1), .val (.int ((p0 &&& (255 : Int32)).toUInt32.toUInt16.toUInt32.toInt32)), .val (.int ((((p0.toUInt32 >>> ((8 : Int32) &&& 31).toUInt32).toInt32) &&& (255 : Int32)).toUInt32.toUInt16.toUInt32.toInt32)), .val (.int ((p1 &&& (255 : Int32)).toUInt32.toUInt16.toUInt32.toInt32)), .val (.int ((((p1.toUInt32 >>> ((8 : Int32) &&& 31).toUInt32).toInt32) &&& (255 : Int32)).toUInt32.toUInt16.toUInt32.toInt32)), .val (.ref b1), .val (.ref b11), .val (.ref b21), .val (.ref f64), .val (.ref x64)]) (by rw [hml]; rfl) (lenOf own_pd23 rfl) rfl (Nat.le_of_eq rfl) (hb hby at_216) (by decide) (by decide))
  obtain ⟨r67, hr67, rfl⟩ := own_eq01 hv67
  refine own_stW (g' := (mkF m 219 #[.val (.int p0), .val (.int p1), .val (.int ((p0 &&& (255 : Int32)).toUInt32.toUInt16.toUInt32.toInt32)), .val (.int ((((p0.toUInt32 >>> ((8 : Int32) &&& 31).toUInt32).toInt32) &&& (255 : Int32)).toUInt32.toUInt16.toUInt32.toInt32)), .val (.int ((p1 &&& (255 : Int32)).toUInt32.toUInt16.toUInt32.toInt32)), .val (.int ((((p1.toUInt32 >>> ((8 : Int32) &&& 31).toUInt32).toInt32) &&& (255 : Int32)).toUInt32.toUInt16.toUInt32.toInt32)), .val (.ref b1), .val (.ref b11), .val (.ref b21), .val (.ref f64), .val (.ref x64)] [(.int r67)])) st67 ?_
  refine own_stW (g' := (mkF m 224 #[.val (.int p0), .val (.int p1), .val (.int ((p0 &&& (255 : Int32)).toUInt32.toUInt16.toUInt32.toInt32)), .val (.int ((((p0.toUInt32 >>> ((8 : Int32) &&& 31).toUInt32).toInt32) &&& (255 : Int32)).toUInt32.toUInt16.toUInt32.toInt32)), .val (.int ((p1 &&& (255 : Int32)).toUInt32.toUInt16.toUInt32.toInt32)), .val (.int ((((p1.toUInt32 >>> ((8 : Int32) &&& 31).toUInt32).toInt32) &&& (255 : Int32)).toUInt32.toUInt16.toUInt32.toInt32)), .val (.ref b1), .val (.ref b11), .val (.ref b21), .val (.ref f64), .val (.ref x64)] [(.ref f64)])) (fun _ q => XS.ifNo X67.here hx rfl (hb hby at_219) rfl ((if0 _ _).trans (feq (by rw [hr67, if_pos rfl]; decide)).1) (XS.aload X67.here hx rfl (hb hby at_222) rfl rfl (q))) ?_
  have K68 : own_Bk l room_1 p e below (s.setVm T64.vm) #[(.int p0), (.int p1)] (⟨"com/example/titelfeld/titelfeld/command/CommandFailure", "reported", "()Z"⟩ : MethodName) 0 T64.heap #[(.ref f64)] 0 0 (fun v h L => v = some (.int (1 : Int32)) ∧ L = [] ∧ h = T64.heap) := backOf (s := (s.setVm T64.vm)) (R := room_1) (W := 0) (Q := (fun v h L => v = some (.int (1 : Int32)) ∧ L = [] ∧ h = T64.heap)) (rm := ({ frames := 0, cells := 0, slots := 0, locals := 0 } : Room)) (own_rm_rptd l Z a0 hw [] f64  T64.heap R64 ) w64.2.1 (hw _ (List.mem_of_getElem? (i := 240) rfl)) (hw _ (List.mem_of_getElem? (i := 32) rfl)) (by decide) (by decide)
  obtain ⟨T69, X69, e69, st69⟩ := own_pure (own_cV X67 hx w64.2.1 w64.2.2.1 (hw _ (List.mem_of_getElem? (i := 236) rfl)) (hw _ (List.mem_of_getElem? (i := 237) rfl)) (notFace_of_selects (args := #[]) (mvT w64.2.1 (hw _ (List.mem_of_getElem? (i := 239) rfl)))) (hw _ (List.mem_of_getElem? (i := 239) rfl)) (hw _ (List.mem_of_getElem? (i := 238) rfl)) (by decide) e67 (h := T64.heap) (b := f64) E64 (argsL := []) (rest := []) K68 (pc := 224) (Ls := #[.val (.int p0), .val (.int p1), .val (.int ((p0 &&& (255 : Int32)).toUInt32.toUInt16.toUInt32.toInt32)), .val (.int ((((p0.toUInt32 >>> ((8 : Int32) &&& 31).toUInt32).toInt32) &&& (255 : Int32)).toUInt32.toUInt16.toUInt32.toInt32)), .val (.int ((p1 &&& (255 : Int32)).toUInt32.toUInt16.toUInt32.toInt32)), .val (.int ((((p1.toUInt32 >>> ((8 : Int32) &&& 31).toUInt32).toInt32) &&& (255 : Int32)).toUInt32.toUInt16.toUInt32.toInt32)), .val (.ref b1), .val (.ref b11), .val (.ref b21), .val (.ref f64), .val (.ref x64)]) (by rw [hml]; rfl) (lenOf own_pd14 rfl) rfl (Nat.le_of_eq rfl) (hb hby at_224) (by decide) (by decide))
  refine own_stW (g' := (mkF m 227 #[.val (.int p0), .val (.int p1), .val (.int ((p0 &&& (255 : Int32)).toUInt32.toUInt16.toUInt32.toInt32)), .val (.int ((((p0.toUInt32 >>> ((8 : Int32) &&& 31).toUInt32).toInt32) &&& (255 : Int32)).toUInt32.toUInt16.toUInt32.toInt32)), .val (.int ((p1 &&& (255 : Int32)).toUInt32.toUInt16.toUInt32.toInt32)), .val (.int ((((p1.toUInt32 >>> ((8 : Int32) &&& 31).toUInt32).toInt32) &&& (255 : Int32)).toUInt32.toUInt16.toUInt32.toInt32)), .val (.ref b1), .val (.ref b11), .val (.ref b21), .val (.ref f64), .val (.ref x64)] [(.int (1 : Int32))])) st69 ?_
  refine own_stW (g' := (mkF m 235 #[.val (.int p0), .val (.int p1), .val (.int ((p0 &&& (255 : Int32)).toUInt32.toUInt16.toUInt32.toInt32)), .val (.int ((((p0.toUInt32 >>> ((8 : Int32) &&& 31).toUInt32).toInt32) &&& (255 : Int32)).toUInt32.toUInt16.toUInt32.toInt32)), .val (.int ((p1 &&& (255 : Int32)).toUInt32.toUInt16.toUInt32.toInt32)), .val (.int ((((p1.toUInt32 >>> ((8 : Int32) &&& 31).toUInt32).toInt32) &&& (255 : Int32)).toUInt32.toUInt16.toUInt32.toInt32)), .val (.ref b1), .val (.ref b11), .val (.ref b21), .val (.ref f64), .val (.ref x64)] [(.int (1 : Int32))])) (fun _ q => XS.ifNo X69.here hx rfl (hb hby at_227) rfl ((if0 _ _).trans (feq (by decide : ¬ ((1 : Int32) = (0 : Int32)))).1) (XS.iconst X69.here hx rfl (hb hby at_230) (XS.goto X69.here hx rfl (pc0 := 231) (pc' := 235) rfl (hb hby at_231) (by decide) (by decide) (q)))) ?_
  exact own_goWN X69 hh w64 hEL e69 hlk hx (t := .boolean) (by simp) Bd.returns (hb hby at_235) ⟨rfl, N64⟩ (by decide) (by decide)
set_option maxRecDepth 65536 in
set_option maxHeartbeats 40000000 in
theorem comes_1 {Post : Tables → Env → Array Value → State → Outcome → State → Prop} (hpost : ∀ tb e args s v u, (limb_1_1.after args s (.returned v) u = true ∧ limb_1_2.after args s (.returned v) u = true ∧ True) → ReturnedEndW s (.returned v) u (Jvm.fieldLocs frame_1_writes args s ++ Jvm.arrayLocs frame_1_arrays args s ++ Jvm.staticLocs frame_1_statics s) 48 7936 → Post tb e args s (.returned v) u) :
    ArmFor flags0 classFile x code maxLocals ret World_1 tables_1 room_1 Calls_1 rest_1 Pre_1 Post := by
  intro l hfl _ _ p e ha hc hk s m args below hf hA hF happ hP
  obtain ⟨hcalls, hrest, hpre⟩ := hP
  obtain ⟨-, -, -, hnamed, -, -, -, hat⟩ := (Spec.applies_iff hf).mp happ
  obtain ⟨hg, hn⟩ := and_e (Cond.before_iff.mp (show (Jvm.Cond.and given_1 narrow_1).before args s = true from hpre))
  obtain ⟨hct, hi0⟩ := and_e hg
  obtain ⟨ha0, hi1⟩ := and_e hi0
  have ha1 := hi1
  obtain ⟨w0, w1, rfl⟩ : ∃ w0 w1 : Value, args = #[w0, w1] := by
    have hs : args.size = 2 := by simpa [Cond.value, given_1] using hct
    obtain ⟨L⟩ := args
    match L, hs with
    | [w0, w1], _ => exact ⟨w0, w1, rfl⟩
  have hw := fun d (hd : d ∈ tables_1) => atoms_spec (ws := Jvm.Cond.code x code maxLocals ret :: tables_1) hat d (List.mem_cons_of_mem _ hd)
  obtain ⟨hsets, hown0⟩ := atoms_of _ (rest_1_c_eq ▸ (show rest_1_c.before _ s = true from hrest))
  have hr0 := Cond.before_iff.mp hown0
  have hfit : Fit s := fun {y c} hc i hi => by
    obtain ⟨ha, rfl⟩ := Array.getElem?_eq_some_iff.mp hc
    have q := List.all_eq_true.mp ((Array.all_eq_true_iff_forall_mem.mp hF) _ (Array.getElem_mem ha)) i (List.mem_range.mpr hi)
    simpa [Array.getElem?_eq_getElem hi] using q
  obtain ⟨i0, ee0⟩ := is_v ha0
  obtain rfl : w0 = (.int i0) := Option.some.inj ee0
  obtain ⟨i1, ee1⟩ := is_v ha1
  obtain rfl : w1 = (.int i1) := Option.some.inj ee1
  have n5 := not_v (Cond.before_iff.mp (hsets _ (List.mem_of_getElem? (i := 2) rfl)))
  obtain ⟨G1, eG1⟩ := is_v (Cond.before_iff.mp (hsets _ (List.mem_of_getElem? (i := 1) rfl)))
  have SG1 : Sta s s.heap "java/lang/String" "COMPACT_STRINGS" "Z" (.int G1) := Sta.start eG1 (Or.inl (hsets _ (List.mem_of_getElem? (i := 0) rfl)))
  have zG1 : ¬ (G1 = (0 : Int32)) := gotF (Cond.eq_ints eG1 (Term.int_eval (0))) n5
  have hl : l.stackTraces = true := by unfold Launch.stackTraces; rw [hfl]; decide
  obtain ⟨u0, eu0, ru0⟩ := isR_v (Cond.before_iff.mp (hsets _ (List.mem_of_getElem? (i := 16) rfl)))
  have SU0 : Sta s s.heap "java/lang/Throwable" "UNASSIGNED_STACK" "[Ljava/lang/StackTraceElement;" u0 := Sta.start eu0 (Or.inl (hsets _ (List.mem_of_getElem? (i := 15) rfl)))
  obtain ⟨u1, eu1, ru1⟩ := isR_v (Cond.before_iff.mp (hsets _ (List.mem_of_getElem? (i := 21) rfl)))
  have SU1 : Sta s s.heap "java/lang/Throwable" "SUPPRESSED_SENTINEL" "Ljava/util/List;" u1 := Sta.start eu1 (Or.inl (hsets _ (List.mem_of_getElem? (i := 20) rfl)))
  have hCH : CHv s own_EL s.vm s.heap := CHv.start (own_ew hw) (fun p hp => hcalls.2.2.1 p hp) (hsets _ (List.mem_of_getElem? (i := 2) rfl)) (hw _ (List.mem_of_getElem? (i := 19) rfl)) (hw _ (List.mem_of_getElem? (i := 1) rfl))
  obtain ⟨n, o, h1, h2, h3, _, L, rfl, ⟨rfl, N⟩, -, hq⟩ := own_rm_law l s _ hw tables_1 i0 i1 G1 s.heap.size s.heap (Nat.le_refl _) (Old.start s) SG1 zG1 hl u0 u1 SU0 ru0 SU1 ru1 p e ha hc hk s m _ below hf ((Spec.applies_iff_loose hf).mp happ).1 ⟨rfl, State.Warmed39.refl s, rfl, hCH, all0⟩ ⟨hcalls.1, hcalls.2.1⟩
  exact ⟨n, _, h1, h2, h3, hpost _ _ _ _ _ _ ⟨Cond.after_iff.mpr rfl, Cond.after_iff.mpr (eq_i res_at (Term.int_eval (1)) rfl), trivial⟩ ⟨hq.1, hq.2.1, hq.2.2.1, (hq.2.2.2.sift fun y hy => Or.inr (N y hy)).mono (by decide) (by decide)⟩⟩
theorem main_1_1 : Claimed_1_1 := comes_1 fun _ _ _ _ _ _ h hF => ⟨h.1, hF⟩
theorem main_1_2 : Claimed_1_2 := comes_1 fun _ _ _ _ _ _ h hF => ⟨h.2.1, hF⟩
end Jvm.Pilot.@@N@@
namespace Jvm.Pilot.@@N@@
open Jvm Jvm.ClassFile Sem Op Lib Jvm.Free Jvm.Stand Jvm.Pilot.@@N@@.Jvm.D
/-! MADE BY PROGRAM (witnessworld.py) out of the Statement's table words and the real class files: 41 classes; the members and pool entries that the words name. The judged class is class 1, her method 1. -/
namespace start1
open Jvm.ClassFile
def u (s : String) : CpInfo := .utf8 (stringToUtf16 s)
/-- a pool by its gaps: so many unusable entries, then the entry; so many at the end -/
def gap : Nat → List CpInfo → List CpInfo
  | 0, r => r
  | n + 1, r => .unusable :: gap n r
def poolList (es : List (Nat × CpInfo)) (last : Nat) : List CpInfo := es.foldr (fun e r => gap e.1 (e.2 :: r)) (gap last [])
def pool (es : List (Nat × CpInfo)) (last : Nat) : Array CpInfo := ⟨poolList es last⟩
def fileOf (pool : Array CpInfo) (this : Nat) (attrs : Array Attribute := #[]) (ms : Array MethodInfo := #[]) (fl : Nat := 33) (sup : Nat := 0) (ifs : Array Nat := #[]) (fds : Array FieldInfo := #[]) : ClassFile where
  minorVersion := 0
  majorVersion := 65
  constantPool := pool
  accessFlags := fl
  thisClass := this
  superClass := sup
  interfaces := ifs
  fields := fds
  methods := ms
  attributes := attrs
def plain (name : String) (sup : Option ClassId) : Class where
  name := name
  kind := .ordinary
  loader := none
  accessFlags := 33
  super := sup
  interfaces := #[]
  cf := none
  fields := #[]
  methods := #[]
  instanceTypes := #[]
  staticTypes := #[]
  resolved := #[]
  callSites := []
  init := .initialized
  statics := none
  mirror := none

def pool0 : Array CpInfo := pool [(5, u "<init>"), (0, u "()V"), (1, .class_ 10), (1, u "java/lang/Object")] 113

def k0c0 : Code := { maxStack := 0, maxLocals := 1, code := object_method_1_code, exceptionTable := #[], attributes := #[] }
def k0m0 : Method := { name := "<init>", desc := "()V", sig := { parameters := [], returnType := none }, accessFlags := 1, code := some k0c0 }
/-- java/lang/Object -/
def k0 : Class := { plain "java/lang/Object" none with
  accessFlags := 33
  interfaces := #[]
  cf := some (fileOf pool0 8 #[] #[{ accessFlags := 1, nameIndex := 5, descriptorIndex := 6, attributes := #[] }] 33 0 #[] #[])
  fields := #[]
  methods := #[k0m0]
  instanceTypes := #[]
  staticTypes := #[]
  resolved := Array.replicate 124 none
  statics := none }

def pool1 : Array CpInfo := pool [(2, .class_ 4), (1, u "java/lang/Object"), (0, u "<init>"), (0, u "()V"), (0, .class_ 8), (0, u "java/lang/String"), (0, .methodref 7 10), (0, .nameAndType 5 11), (0, u "([C)V"), (0, .methodref 13 14), (0, .class_ 15), (0, .nameAndType 16 17), (0, u "com/example/titelfeld/titelfeld/command/CommandFailure"), (0, u "readingStopped"), (0, u "(Ljava/lang/String;Ljava/lang/String;)Lcom/example/titelfeld/titelfeld/command/CommandFailure;"), (0, .methodref 13 19), (0, .nameAndType 20 21), (0, u "getMessage"), (0, u "()Ljava/lang/String;"), (0, .methodref 7 23), (0, .nameAndType 24 25), (0, u "equals"), (0, u "(Ljava/lang/Object;)Z"), (0, .methodref 13 27), (0, .nameAndType 28 29), (0, u "reported"), (0, u "()Z"), (0, .class_ 31), (0, u "com/example/titelfeld/titelfeld/command/CommandFailureReadingStoppedPinLaw"), (2, u "law"), (0, u "(II)Z")] 3

def k1m0 : Method := { name := "<init>", desc := "()V", sig := { parameters := [], returnType := none }, accessFlags := 2, code := none }
def k1c1 : Code := { maxStack := 6, maxLocals := 11, code := code, exceptionTable := #[], attributes := #[] }
def k1m1 : Method := { name := "law", desc := "(II)Z", sig := { parameters := [.int, .int], returnType := some .boolean }, accessFlags := 9, code := some k1c1 }
/-- com/example/titelfeld/titelfeld/command/CommandFailureReadingStoppedPinLaw -/
def k1 : Class := { plain "com/example/titelfeld/titelfeld/command/CommandFailureReadingStoppedPinLaw" (some 0) with
  accessFlags := 49
  interfaces := #[]
  cf := some (fileOf pool1 30 #[] #[{ accessFlags := 2, nameIndex := 5, descriptorIndex := 6, attributes := #[] }, { accessFlags := 9, nameIndex := 34, descriptorIndex := 35, attributes := #[] }] 49 2 #[] #[])
  fields := #[]
  methods := #[k1m0, k1m1]
  instanceTypes := #[]
  staticTypes := #[]
  resolved := Array.replicate 39 none
  statics := none }

def pool2 : Array CpInfo := pool [(1, .class_ 2), (0, u "java/io/Serializable"), (0, .class_ 4), (0, u "java/lang/Object")] 2

/-- java/io/Serializable -/
def k2 : Class := { plain "java/io/Serializable" (some 0) with
  accessFlags := 1537
  interfaces := #[]
  cf := some (fileOf pool2 1 #[] #[] 1537 3 #[] #[])
  fields := #[]
  methods := #[]
  instanceTypes := #[]
  staticTypes := #[]
  resolved := Array.replicate 7 none
  statics := none }

def pool3 : Array CpInfo := pool [(1, .class_ 2), (0, u "java/lang/Comparable"), (0, .class_ 4), (0, u "java/lang/Object")] 7

/-- java/lang/Comparable -/
def k3 : Class := { plain "java/lang/Comparable" (some 0) with
  accessFlags := 1537
  interfaces := #[]
  cf := some (fileOf pool3 1 #[] #[] 1537 3 #[] #[])
  fields := #[]
  methods := #[]
  instanceTypes := #[]
  staticTypes := #[]
  resolved := Array.replicate 12 none
  statics := none }

def pool4 : Array CpInfo := pool [(2, .class_ 4), (1, u "java/lang/CharSequence"), (42, .class_ 48), (0, u "java/lang/CharSequence$1CodePointIterator"), (10, .class_ 60), (0, u "java/lang/CharSequence$1CharIterator"), (5, .class_ 67), (0, u "java/lang/Object")] 63

/-- java/lang/CharSequence -/
def k4 : Class := { plain "java/lang/CharSequence" (some 0) with
  accessFlags := 1537
  interfaces := #[]
  cf := some (fileOf pool4 2 #[.nestMembers #[47, 59]] #[] 1537 66 #[] #[])
  fields := #[]
  methods := #[]
  instanceTypes := #[]
  staticTypes := #[]
  resolved := Array.replicate 131 none
  statics := none }

def pool5 : Array CpInfo := pool [(1, .class_ 2), (0, u "java/lang/constant/Constable"), (0, .class_ 4), (0, u "java/lang/Object")] 6

/-- java/lang/constant/Constable -/
def k5 : Class := { plain "java/lang/constant/Constable" (some 0) with
  accessFlags := 1537
  interfaces := #[]
  cf := some (fileOf pool5 1 #[] #[] 1537 3 #[] #[])
  fields := #[]
  methods := #[]
  instanceTypes := #[]
  staticTypes := #[]
  resolved := Array.replicate 11 none
  statics := none }

def pool6 : Array CpInfo := pool [(1, .class_ 2), (0, u "java/lang/constant/ConstantDesc"), (0, .class_ 4), (0, u "java/lang/Object")] 32

/-- java/lang/constant/ConstantDesc -/
def k6 : Class := { plain "java/lang/constant/ConstantDesc" (some 0) with
  accessFlags := 1537
  interfaces := #[]
  cf := some (fileOf pool6 1 #[] #[] 1537 3 #[] #[])
  fields := #[]
  methods := #[]
  instanceTypes := #[]
  staticTypes := #[]
  resolved := Array.replicate 37 none
  statics := none }

def pool7 : Array CpInfo := pool [(1, .methodref 2 3), (0, .class_ 4), (0, .nameAndType 5 6), (0, u "java/lang/Object"), (0, u "<init>"), (0, u "()V"), (2, .fieldref 10 11), (0, .class_ 12), (0, .nameAndType 13 14), (0, u "java/lang/String"), (0, u "value"), (0, u "[B"), (0, .fieldref 10 16), (0, .nameAndType 17 18), (0, u "coder"), (0, u "B"), (2, u "hash"), (0, u "I"), (2, u "hashIsZero"), (0, u "Z"), (0, .methodref 10 28), (0, .nameAndType 5 29), (0, u "([CIILjava/lang/Void;)V"), (8, .fieldref 10 39), (0, .nameAndType 40 26), (0, u "COMPACT_STRINGS"), (1, .class_ 44), (1, u "java/lang/StringUTF16"), (0, u "compress"), (1, .methodref 42 48), (0, .nameAndType 49 50), (0, u "coderFromArrayLen"), (0, u "([BI)B"), (3, .methodref 55 56), (0, .class_ 57), (0, .nameAndType 58 59), (0, u "java/util/Arrays"), (0, u "copyOfRange"), (0, u "([BII)[B"), (47, .class_ 109), (1, u "java/lang/StringLatin1"), (32, u "()Z"), (34, .methodref 42 178), (0, .nameAndType 45 179), (0, u "([CII)[B"), (13, .class_ 195), (1, u "java/lang/System"), (16, .methodref 193 213), (0, .nameAndType 214 215), (0, u "arraycopy"), (0, u "(Ljava/lang/Object;ILjava/lang/Object;II)V"), (118, u "()I"), (0, .methodref 10 336), (0, .nameAndType 17 337), (0, u "()B"), (2, u "()[B"), (148, .methodref 10 490), (0, .nameAndType 5 491), (0, u "(Ljava/lang/AbstractStringBuilder;Ljava/lang/Void;)V"), (1, .nameAndType 494 142), (0, u "isLatin1"), (11, .nameAndType 507 334), (0, u "length"), (24, u "getBytes"), (8, .methodref 107 542), (0, .nameAndType 543 544), (0, u "equals"), (0, u "([B[B)Z"), (4, .methodref 550 506), (0, .class_ 551), (0, u "java/lang/AbstractStringBuilder"), (0, .methodref 550 553), (0, .nameAndType 554 340), (0, u "getValue"), (18, u "(Ljava/lang/Object;)Z"), (1, .class_ 576), (0, u "java/lang/CharSequence"), (22, u "CASE_INSENSITIVE_ORDER"), (0, u "Ljava/util/Comparator;"), (220, u "([BIB)V"), (188, u "([C)V"), (36, .methodref 550 493), (53, u "serialPersistentFields"), (0, u "[Ljava/io/ObjectStreamField;"), (0, .class_ 1104), (0, u "java/lang/String$CaseInsensitiveComparator"), (1, .class_ 1107), (0, u "java/io/Serializable"), (0, .class_ 1109), (0, u "java/lang/Comparable"), (0, .class_ 1111), (0, u "java/lang/constant/Constable"), (0, .class_ 1113), (0, u "java/lang/constant/ConstantDesc"), (2, u "serialVersionUID"), (0, u "J"), (3, u "REPL"), (0, u "C"), (2, u "LATIN1"), (1, u "UTF16"), (105, u "(Ljava/lang/StringBuilder;)V")] 217

def k7m0 : Method := { name := "<init>", desc := "()V", sig := { parameters := [], returnType := none }, accessFlags := 1, code := none }
def k7c1 : Code := { maxStack := 5, maxLocals := 2, code := jdk_42_method_3_code, exceptionTable := #[], attributes := #[] }
def k7m1 : Method := { name := "<init>", desc := "([C)V", sig := { parameters := [(.array .char)], returnType := none }, accessFlags := 1, code := some k7c1 }
def k7c2 : Code := { maxStack := 3, maxLocals := 2, code := jdk_42_method_53_code, exceptionTable := #[], attributes := #[] }
def k7m2 : Method := { name := "<init>", desc := "(Ljava/lang/StringBuilder;)V", sig := { parameters := [(.object "java/lang/StringBuilder")], returnType := none }, accessFlags := 1, code := some k7c2 }
def k7c3 : Code := { maxStack := 2, maxLocals := 1, code := jdk_42_method_54_code, exceptionTable := #[], attributes := #[] }
def k7m3 : Method := { name := "length", desc := "()I", sig := { parameters := [], returnType := some .int }, accessFlags := 1, code := some k7c3 }
def k7c4 : Code := { maxStack := 2, maxLocals := 3, code := jdk_42_method_66_code, exceptionTable := #[], attributes := #[] }
def k7m4 : Method := { name := "equals", desc := "(Ljava/lang/Object;)Z", sig := { parameters := [(.object "java/lang/Object")], returnType := some .boolean }, accessFlags := 1, code := some k7c4 }
def k7c5 : Code := { maxStack := 5, maxLocals := 4, code := jdk_42_method_147_code, exceptionTable := #[], attributes := #[] }
def k7m5 : Method := { name := "getBytes", desc := "([BIB)V", sig := { parameters := [(.array .byte), .int, .byte], returnType := none }, accessFlags := 0, code := some k7c5 }
def k7c6 : Code := { maxStack := 4, maxLocals := 6, code := jdk_42_method_149_code, exceptionTable := #[], attributes := #[] }
def k7m6 : Method := { name := "<init>", desc := "([CIILjava/lang/Void;)V", sig := { parameters := [(.array .char), .int, .int, (.object "java/lang/Void")], returnType := none }, accessFlags := 2, code := some k7c6 }
def k7c7 : Code := { maxStack := 5, maxLocals := 5, code := jdk_42_method_150_code, exceptionTable := #[], attributes := #[] }
def k7m7 : Method := { name := "<init>", desc := "(Ljava/lang/AbstractStringBuilder;Ljava/lang/Void;)V", sig := { parameters := [(.object "java/lang/AbstractStringBuilder"), (.object "java/lang/Void")], returnType := none }, accessFlags := 0, code := some k7c7 }
def k7c8 : Code := { maxStack := 1, maxLocals := 1, code := jdk_42_method_152_code, exceptionTable := #[], attributes := #[] }
def k7m8 : Method := { name := "coder", desc := "()B", sig := { parameters := [], returnType := some .byte }, accessFlags := 0, code := some k7c8 }
/-- java/lang/String -/
def k7 : Class := { plain "java/lang/String" (some 0) with
  accessFlags := 49
  interfaces := #[2, 3, 4, 5, 6]
  cf := some (fileOf pool7 10 #[.nestMembers #[1103]] #[{ accessFlags := 1, nameIndex := 5, descriptorIndex := 6, attributes := #[] }, { accessFlags := 1, nameIndex := 5, descriptorIndex := 1010, attributes := #[] }, { accessFlags := 1, nameIndex := 5, descriptorIndex := 1233, attributes := #[] }, { accessFlags := 1, nameIndex := 507, descriptorIndex := 334, attributes := #[] }, { accessFlags := 1, nameIndex := 543, descriptorIndex := 573, attributes := #[] }, { accessFlags := 0, nameIndex := 532, descriptorIndex := 821, attributes := #[] }, { accessFlags := 2, nameIndex := 5, descriptorIndex := 29, attributes := #[] }, { accessFlags := 0, nameIndex := 5, descriptorIndex := 491, attributes := #[] }, { accessFlags := 0, nameIndex := 17, descriptorIndex := 337, attributes := #[] }] 49 2 #[1106, 1108, 575, 1110, 1112] #[{ accessFlags := 18, nameIndex := 13, descriptorIndex := 14, attributes := #[] }, { accessFlags := 18, nameIndex := 17, descriptorIndex := 18, attributes := #[] }, { accessFlags := 2, nameIndex := 21, descriptorIndex := 22, attributes := #[] }, { accessFlags := 2, nameIndex := 25, descriptorIndex := 26, attributes := #[] }, { accessFlags := 26, nameIndex := 1116, descriptorIndex := 1117, attributes := #[] }, { accessFlags := 24, nameIndex := 40, descriptorIndex := 26, attributes := #[] }, { accessFlags := 26, nameIndex := 1101, descriptorIndex := 1102, attributes := #[] }, { accessFlags := 26, nameIndex := 1121, descriptorIndex := 1122, attributes := #[] }, { accessFlags := 25, nameIndex := 599, descriptorIndex := 600, attributes := #[] }, { accessFlags := 24, nameIndex := 1125, descriptorIndex := 18, attributes := #[] }, { accessFlags := 24, nameIndex := 1127, descriptorIndex := 18, attributes := #[] }])
  fields := #[{ name := "value", type := (.array .byte), accessFlags := 18, slot := 0, constantValue := 0 }, { name := "coder", type := .byte, accessFlags := 18, slot := 1, constantValue := 0 }, { name := "hash", type := .int, accessFlags := 2, slot := 2, constantValue := 0 }, { name := "hashIsZero", type := .boolean, accessFlags := 2, slot := 3, constantValue := 0 }, { name := "serialVersionUID", type := .long, accessFlags := 26, slot := 0, constantValue := 0 }, { name := "COMPACT_STRINGS", type := .boolean, accessFlags := 24, slot := 1, constantValue := 0 }, { name := "serialPersistentFields", type := (.array (.object "java/io/ObjectStreamField")), accessFlags := 26, slot := 2, constantValue := 0 }, { name := "REPL", type := .char, accessFlags := 26, slot := 3, constantValue := 0 }, { name := "CASE_INSENSITIVE_ORDER", type := (.object "java/util/Comparator"), accessFlags := 25, slot := 4, constantValue := 0 }, { name := "LATIN1", type := .byte, accessFlags := 24, slot := 5, constantValue := 0 }, { name := "UTF16", type := .byte, accessFlags := 24, slot := 6, constantValue := 0 }]
  methods := #[k7m0, k7m1, k7m2, k7m3, k7m4, k7m5, k7m6, k7m7, k7m8]
  instanceTypes := #[(.array .byte), .byte, .int, .boolean]
  staticTypes := #[.long, .boolean, (.array (.object "java/io/ObjectStreamField")), .char, (.object "java/util/Comparator"), .byte, .byte]
  resolved := Array.replicate 1451 none
  statics := some 0 }

def pool8 : Array CpInfo := pool [(6, .class_ 8), (1, u "java/lang/Object"), (0, u "<init>"), (0, u "()V"), (1, .class_ 14), (1, u "java/lang/StringUTF16"), (31, u "$assertionsDisabled"), (0, u "Z"), (13, u "HI_BYTE_SHIFT"), (0, u "I"), (2, u "LO_BYTE_SHIFT"), (49, .methodref 12 116), (0, .nameAndType 117 118), (0, u "compress"), (0, u "([CI[BII)I"), (3, u "([CII)[B"), (138, u "coderFromArrayLen"), (0, u "([BI)B"), (106, .class_ 371), (1, u "java/lang/StringUTF16$LinesSpliterator"), (58, u "MAX_LENGTH"), (196, .class_ 628), (0, u "java/lang/StringUTF16$CodePointsSpliterator"), (0, .class_ 630), (0, u "java/lang/StringUTF16$CharsSpliterator")] 4

def k8m0 : Method := { name := "<init>", desc := "()V", sig := { parameters := [], returnType := none }, accessFlags := 0, code := none }
def k8c1 : Code := { maxStack := 2, maxLocals := 2, code := jdk_52_method_15_code, exceptionTable := #[], attributes := #[] }
def k8m1 : Method := { name := "coderFromArrayLen", desc := "([BI)B", sig := { parameters := [(.array .byte), .int], returnType := some .byte }, accessFlags := 8, code := some k8c1 }
def k8c2 : Code := { maxStack := 5, maxLocals := 6, code := jdk_52_method_16_code, exceptionTable := #[], attributes := #[] }
def k8m2 : Method := { name := "compress", desc := "([CII)[B", sig := { parameters := [(.array .char), .int, .int], returnType := some (.array .byte) }, accessFlags := 9, code := some k8c2 }
def k8c3 : Code := { maxStack := 3, maxLocals := 7, code := jdk_52_method_21_code, exceptionTable := #[], attributes := #[] }
def k8m3 : Method := { name := "compress", desc := "([CI[BII)I", sig := { parameters := [(.array .char), .int, (.array .byte), .int, .int], returnType := some .int }, accessFlags := 9, code := some k8c3 }
/-- java/lang/StringUTF16 -/
def k8 : Class := { plain "java/lang/StringUTF16" (some 0) with
  accessFlags := 48
  interfaces := #[]
  cf := some (fileOf pool8 12 #[.nestMembers #[627, 629, 369]] #[{ accessFlags := 0, nameIndex := 9, descriptorIndex := 10, attributes := #[] }, { accessFlags := 8, nameIndex := 261, descriptorIndex := 262, attributes := #[] }, { accessFlags := 9, nameIndex := 117, descriptorIndex := 122, attributes := #[] }, { accessFlags := 9, nameIndex := 117, descriptorIndex := 118, attributes := #[] }] 48 6 #[] #[{ accessFlags := 26, nameIndex := 61, descriptorIndex := 62, attributes := #[] }, { accessFlags := 26, nameIndex := 65, descriptorIndex := 62, attributes := #[] }, { accessFlags := 24, nameIndex := 430, descriptorIndex := 62, attributes := #[] }, { accessFlags := 4120, nameIndex := 46, descriptorIndex := 47, attributes := #[] }])
  fields := #[{ name := "HI_BYTE_SHIFT", type := .int, accessFlags := 26, slot := 0, constantValue := 0 }, { name := "LO_BYTE_SHIFT", type := .int, accessFlags := 26, slot := 1, constantValue := 0 }, { name := "MAX_LENGTH", type := .int, accessFlags := 24, slot := 2, constantValue := 0 }, { name := "$assertionsDisabled", type := .boolean, accessFlags := 4120, slot := 3, constantValue := 0 }]
  methods := #[k8m0, k8m1, k8m2, k8m3]
  instanceTypes := #[]
  staticTypes := #[.int, .int, .int, .boolean]
  resolved := Array.replicate 635 none
  statics := none }

def pool9 : Array CpInfo := pool [(1, .methodref 2 3), (0, .class_ 4), (0, .nameAndType 5 6), (0, u "java/lang/Object"), (0, u "<init>"), (0, u "()V"), (0, .fieldref 8 9), (0, .class_ 10), (0, .nameAndType 11 12), (0, u "java/lang/Throwable"), (0, u "cause"), (0, u "Ljava/lang/Throwable;"), (0, .fieldref 8 14), (0, .nameAndType 15 16), (0, u "UNASSIGNED_STACK"), (0, u "[Ljava/lang/StackTraceElement;"), (0, .fieldref 8 18), (0, .nameAndType 19 16), (0, u "stackTrace"), (0, .fieldref 8 21), (0, .nameAndType 22 23), (0, u "SUPPRESSED_SENTINEL"), (0, u "Ljava/util/List;"), (0, .fieldref 8 25), (0, .nameAndType 26 23), (0, u "suppressedExceptions"), (0, .methodref 8 28), (0, .nameAndType 29 30), (0, u "fillInStackTrace"), (0, u "()Ljava/lang/Throwable;"), (0, .fieldref 8 32), (0, .nameAndType 33 34), (0, u "detailMessage"), (0, u "Ljava/lang/String;"), (3, u "()Ljava/lang/String;"), (2, u "getMessage"), (51, .class_ 94), (0, u "java/lang/Throwable$WrappedPrintStream"), (6, .class_ 103), (1, u "java/lang/Throwable$PrintStreamOrWriter"), (61, u "$assertionsDisabled"), (0, u "Z"), (26, .class_ 194), (0, u "java/lang/Throwable$WrappedPrintWriter"), (3, .fieldref 8 199), (0, .nameAndType 200 201), (0, u "backtrace"), (0, u "Ljava/lang/Object;"), (0, .methodref 8 203), (0, .nameAndType 29 204), (0, u "(I)Ljava/lang/Throwable;"), (6, u "depth"), (0, u "I"), (10, u "(Ljava/lang/String;)V"), (45, .class_ 271), (1, u "java/lang/Throwable$SentinelHolder"), (32, u "EMPTY_THROWABLE_ARRAY"), (0, u "[Ljava/lang/Throwable;"), (12, .class_ 319), (0, u "java/io/Serializable"), (0, u "serialVersionUID"), (0, u "J"), (5, u "NULL_CAUSE_MESSAGE"), (0, u "SELF_SUPPRESSION_MESSAGE"), (0, u "CAUSE_CAPTION"), (0, u "SUPPRESSED_CAPTION")] 73

def k9c0 : Code := { maxStack := 2, maxLocals := 1, code := jdk_78_method_1_code, exceptionTable := #[], attributes := #[] }
def k9m0 : Method := { name := "<init>", desc := "()V", sig := { parameters := [], returnType := none }, accessFlags := 1, code := some k9c0 }
def k9c1 : Code := { maxStack := 2, maxLocals := 2, code := jdk_78_method_2_code, exceptionTable := #[], attributes := #[] }
def k9m1 : Method := { name := "<init>", desc := "(Ljava/lang/String;)V", sig := { parameters := [(.object "java/lang/String")], returnType := none }, accessFlags := 1, code := some k9c1 }
def k9c2 : Code := { maxStack := 1, maxLocals := 1, code := jdk_78_method_6_code, exceptionTable := #[], attributes := #[] }
def k9m2 : Method := { name := "getMessage", desc := "()Ljava/lang/String;", sig := { parameters := [], returnType := some (.object "java/lang/String") }, accessFlags := 1, code := some k9c2 }
def k9c3 : Code := { maxStack := 2, maxLocals := 1, code := jdk_78_method_18_code, exceptionTable := #[], attributes := #[] }
def k9m3 : Method := { name := "fillInStackTrace", desc := "()Ljava/lang/Throwable;", sig := { parameters := [], returnType := some (.object "java/lang/Throwable") }, accessFlags := 33, code := some k9c3 }
def k9m4 : Method := { name := "fillInStackTrace", desc := "(I)Ljava/lang/Throwable;", sig := { parameters := [.int], returnType := some (.object "java/lang/Throwable") }, accessFlags := 258, code := none }
/-- java/lang/Throwable -/
def k9 : Class := { plain "java/lang/Throwable" (some 0) with
  accessFlags := 33
  interfaces := #[2]
  cf := some (fileOf pool9 8 #[.nestMembers #[193, 93, 101, 269]] #[{ accessFlags := 1, nameIndex := 5, descriptorIndex := 6, attributes := #[] }, { accessFlags := 1, nameIndex := 5, descriptorIndex := 223, attributes := #[] }, { accessFlags := 1, nameIndex := 41, descriptorIndex := 38, attributes := #[] }, { accessFlags := 33, nameIndex := 29, descriptorIndex := 30, attributes := #[] }, { accessFlags := 258, nameIndex := 29, descriptorIndex := 204, attributes := #[] }] 33 2 #[318] #[{ accessFlags := 26, nameIndex := 320, descriptorIndex := 321, attributes := #[] }, { accessFlags := 130, nameIndex := 200, descriptorIndex := 201, attributes := #[] }, { accessFlags := 2, nameIndex := 33, descriptorIndex := 34, attributes := #[] }, { accessFlags := 26, nameIndex := 15, descriptorIndex := 16, attributes := #[] }, { accessFlags := 2, nameIndex := 11, descriptorIndex := 12, attributes := #[] }, { accessFlags := 2, nameIndex := 19, descriptorIndex := 16, attributes := #[] }, { accessFlags := 130, nameIndex := 211, descriptorIndex := 212, attributes := #[] }, { accessFlags := 26, nameIndex := 22, descriptorIndex := 23, attributes := #[] }, { accessFlags := 2, nameIndex := 26, descriptorIndex := 23, attributes := #[] }, { accessFlags := 26, nameIndex := 327, descriptorIndex := 34, attributes := #[] }, { accessFlags := 26, nameIndex := 328, descriptorIndex := 34, attributes := #[] }, { accessFlags := 26, nameIndex := 329, descriptorIndex := 34, attributes := #[] }, { accessFlags := 26, nameIndex := 330, descriptorIndex := 34, attributes := #[] }, { accessFlags := 26, nameIndex := 304, descriptorIndex := 305, attributes := #[] }, { accessFlags := 4120, nameIndex := 165, descriptorIndex := 166, attributes := #[] }])
  fields := #[{ name := "serialVersionUID", type := .long, accessFlags := 26, slot := 0, constantValue := 0 }, { name := "backtrace", type := (.object "java/lang/Object"), accessFlags := 130, slot := 0, constantValue := 0 }, { name := "detailMessage", type := (.object "java/lang/String"), accessFlags := 2, slot := 1, constantValue := 0 }, { name := "UNASSIGNED_STACK", type := (.array (.object "java/lang/StackTraceElement")), accessFlags := 26, slot := 1, constantValue := 0 }, { name := "cause", type := (.object "java/lang/Throwable"), accessFlags := 2, slot := 2, constantValue := 0 }, { name := "stackTrace", type := (.array (.object "java/lang/StackTraceElement")), accessFlags := 2, slot := 3, constantValue := 0 }, { name := "depth", type := .int, accessFlags := 130, slot := 4, constantValue := 0 }, { name := "SUPPRESSED_SENTINEL", type := (.object "java/util/List"), accessFlags := 26, slot := 2, constantValue := 0 }, { name := "suppressedExceptions", type := (.object "java/util/List"), accessFlags := 2, slot := 5, constantValue := 0 }, { name := "NULL_CAUSE_MESSAGE", type := (.object "java/lang/String"), accessFlags := 26, slot := 3, constantValue := 0 }, { name := "SELF_SUPPRESSION_MESSAGE", type := (.object "java/lang/String"), accessFlags := 26, slot := 4, constantValue := 0 }, { name := "CAUSE_CAPTION", type := (.object "java/lang/String"), accessFlags := 26, slot := 5, constantValue := 0 }, { name := "SUPPRESSED_CAPTION", type := (.object "java/lang/String"), accessFlags := 26, slot := 6, constantValue := 0 }, { name := "EMPTY_THROWABLE_ARRAY", type := (.array (.object "java/lang/Throwable")), accessFlags := 26, slot := 7, constantValue := 0 }, { name := "$assertionsDisabled", type := .boolean, accessFlags := 4120, slot := 8, constantValue := 0 }]
  methods := #[k9m0, k9m1, k9m2, k9m3, k9m4]
  instanceTypes := #[(.object "java/lang/Object"), (.object "java/lang/String"), (.object "java/lang/Throwable"), (.array (.object "java/lang/StackTraceElement")), .int, (.object "java/util/List")]
  staticTypes := #[.long, (.array (.object "java/lang/StackTraceElement")), (.object "java/util/List"), (.object "java/lang/String"), (.object "java/lang/String"), (.object "java/lang/String"), (.object "java/lang/String"), (.array (.object "java/lang/Throwable")), .boolean]
  resolved := Array.replicate 404 none
  statics := some 1 }

def pool10 : Array CpInfo := pool [(2, .class_ 4), (1, u "java/lang/Throwable"), (0, u "<init>"), (0, u "()V"), (0, .methodref 2 8), (0, .nameAndType 5 9), (0, u "(Ljava/lang/String;)V"), (9, .class_ 20), (0, u "java/lang/Exception"), (0, u "serialVersionUID"), (0, u "J")] 17

def k10m0 : Method := { name := "<init>", desc := "()V", sig := { parameters := [], returnType := none }, accessFlags := 1, code := none }
def k10c1 : Code := { maxStack := 2, maxLocals := 2, code := jdk_59_method_2_code, exceptionTable := #[], attributes := #[] }
def k10m1 : Method := { name := "<init>", desc := "(Ljava/lang/String;)V", sig := { parameters := [(.object "java/lang/String")], returnType := none }, accessFlags := 1, code := some k10c1 }
/-- java/lang/Exception -/
def k10 : Class := { plain "java/lang/Exception" (some 9) with
  accessFlags := 33
  interfaces := #[]
  cf := some (fileOf pool10 19 #[] #[{ accessFlags := 1, nameIndex := 5, descriptorIndex := 6, attributes := #[] }, { accessFlags := 1, nameIndex := 5, descriptorIndex := 9, attributes := #[] }] 33 2 #[] #[{ accessFlags := 24, nameIndex := 21, descriptorIndex := 22, attributes := #[] }])
  fields := #[{ name := "serialVersionUID", type := .long, accessFlags := 24, slot := 0, constantValue := 0 }]
  methods := #[k10m0, k10m1]
  instanceTypes := #[(.object "java/lang/Object"), (.object "java/lang/String"), (.object "java/lang/Throwable"), (.array (.object "java/lang/StackTraceElement")), .int, (.object "java/util/List")]
  staticTypes := #[.long]
  resolved := Array.replicate 40 none
  statics := none }

def pool11 : Array CpInfo := pool [(1, .methodref 2 3), (0, .class_ 4), (0, .nameAndType 5 6), (0, u "com/example/titelfeld/titelfeld/command/CommandFailure"), (0, u "<init>"), (0, u "(Ljava/lang/String;Z)V"), (0, .methodref 8 9), (0, .class_ 10), (0, .nameAndType 5 11), (0, u "java/lang/Exception"), (0, u "(Ljava/lang/String;)V"), (0, .fieldref 2 13), (0, .nameAndType 14 15), (0, u "reported"), (0, u "Z"), (0, .class_ 17), (0, u "java/lang/StringBuilder"), (0, .methodref 16 19), (0, .nameAndType 5 20), (0, u "()V"), (0, .methodref 16 22), (0, .nameAndType 23 24), (0, u "append"), (0, u "(Ljava/lang/String;)Ljava/lang/StringBuilder;"), (2, .methodref 16 28), (0, .nameAndType 29 30), (0, u "toString"), (0, u "()Ljava/lang/String;"), (1, .string 33), (0, u "cannot read "), (0, .string 35), (0, u ": "), (9, u "serialVersionUID"), (0, u "J"), (8, u "(Ljava/lang/String;Ljava/lang/String;)Lcom/example/titelfeld/titelfeld/command/CommandFailure;"), (0, u "readingStopped"), (2, u "()Z")] 2

def k11c0 : Code := { maxStack := 2, maxLocals := 3, code := prog_3_method_2_code, exceptionTable := #[], attributes := #[] }
def k11m0 : Method := { name := "<init>", desc := "(Ljava/lang/String;Z)V", sig := { parameters := [(.object "java/lang/String"), .boolean], returnType := none }, accessFlags := 2, code := some k11c0 }
def k11c1 : Code := { maxStack := 4, maxLocals := 2, code := prog_3_method_5_code, exceptionTable := #[], attributes := #[] }
def k11m1 : Method := { name := "readingStopped", desc := "(Ljava/lang/String;Ljava/lang/String;)Lcom/example/titelfeld/titelfeld/command/CommandFailure;", sig := { parameters := [(.object "java/lang/String"), (.object "java/lang/String")], returnType := some (.object "com/example/titelfeld/titelfeld/command/CommandFailure") }, accessFlags := 9, code := some k11c1 }
def k11c2 : Code := { maxStack := 1, maxLocals := 1, code := prog_3_method_8_code, exceptionTable := #[], attributes := #[] }
def k11m2 : Method := { name := "reported", desc := "()Z", sig := { parameters := [], returnType := some .boolean }, accessFlags := 1, code := some k11c2 }
/-- com/example/titelfeld/titelfeld/command/CommandFailure -/
def k11 : Class := { plain "com/example/titelfeld/titelfeld/command/CommandFailure" (some 10) with
  accessFlags := 49
  interfaces := #[]
  cf := some (fileOf pool11 2 #[] #[{ accessFlags := 2, nameIndex := 5, descriptorIndex := 6, attributes := #[] }, { accessFlags := 9, nameIndex := 56, descriptorIndex := 55, attributes := #[] }, { accessFlags := 1, nameIndex := 14, descriptorIndex := 59, attributes := #[] }] 49 8 #[] #[{ accessFlags := 26, nameIndex := 45, descriptorIndex := 46, attributes := #[] }, { accessFlags := 18, nameIndex := 14, descriptorIndex := 15, attributes := #[] }])
  fields := #[{ name := "serialVersionUID", type := .long, accessFlags := 26, slot := 0, constantValue := 0 }, { name := "reported", type := .boolean, accessFlags := 18, slot := 6, constantValue := 0 }]
  methods := #[k11m0, k11m1, k11m2]
  instanceTypes := #[(.object "java/lang/Object"), (.object "java/lang/String"), (.object "java/lang/Throwable"), (.array (.object "java/lang/StackTraceElement")), .int, (.object "java/util/List"), .boolean]
  staticTypes := #[.long]
  resolved := Array.replicate 62 none
  statics := none }

def pool12 : Array CpInfo := pool [(1, .class_ 2), (0, u "java/lang/Appendable"), (0, .class_ 4), (0, u "java/lang/Object")] 9

/-- java/lang/Appendable -/
def k12 : Class := { plain "java/lang/Appendable" (some 0) with
  accessFlags := 1537
  interfaces := #[]
  cf := some (fileOf pool12 1 #[] #[] 1537 3 #[] #[])
  fields := #[]
  methods := #[]
  instanceTypes := #[]
  staticTypes := #[]
  resolved := Array.replicate 14 none
  statics := none }

def pool13 : Array CpInfo := pool [(1, .class_ 2), (0, u "java/lang/String"), (0, .methodref 4 5), (0, .class_ 6), (0, .nameAndType 7 8), (0, u "java/lang/Object"), (0, u "<init>"), (0, u "()V"), (1, .class_ 12), (1, u "java/lang/AbstractStringBuilder"), (0, u "EMPTYVALUE"), (0, u "[B"), (0, .fieldref 10 16), (0, .nameAndType 17 14), (0, u "value"), (0, .fieldref 1 19), (0, .nameAndType 20 21), (0, u "COMPACT_STRINGS"), (0, u "Z"), (0, .fieldref 10 23), (0, .nameAndType 24 25), (0, u "coder"), (0, u "B"), (6, .methodref 1 33), (0, .nameAndType 34 35), (0, u "length"), (0, u "()I"), (3, .integer 2147483647), (0, .methodref 1 41), (0, .nameAndType 24 42), (0, u "()B"), (2, u "append"), (0, u "(Ljava/lang/String;)Ljava/lang/AbstractStringBuilder;"), (1, .class_ 49), (0, u "java/lang/CharSequence"), (19, u "(Ljava/lang/String;)V"), (5, u "maybeLatin1"), (3, .fieldref 10 80), (0, .nameAndType 81 82), (0, u "count"), (0, u "I"), (2, u "isLatin1"), (0, u "()Z"), (13, .methodref 10 101), (0, .nameAndType 102 103), (0, u "ensureCapacityInternal"), (0, u "(I)V"), (0, .methodref 10 105), (0, .nameAndType 106 107), (0, u "newCapacity"), (0, u "(I)I"), (0, .methodref 109 110), (0, .class_ 111), (0, .nameAndType 112 113), (0, u "java/util/Arrays"), (0, u "copyOf"), (0, u "([BI)[B"), (0, .methodref 115 116), (0, .class_ 117), (0, .nameAndType 118 119), (0, u "jdk/internal/util/ArraysSupport"), (0, u "newLength"), (0, u "(III)I"), (88, .methodref 10 209), (0, .nameAndType 210 211), (0, u "putStringAt"), (0, u "(ILjava/lang/String;)V"), (5, u "inflateIfNeededFor"), (2, .nameAndType 221 222), (0, u "getBytes"), (0, u "([BIB)V"), (174, .methodref 10 398), (0, .nameAndType 217 69), (0, .methodref 1 220), (3, u "()[B"), (40, .class_ 445), (0, u "java/lang/Appendable"), (106, u "getValue")] 56

def k13m0 : Method := { name := "<init>", desc := "()V", sig := { parameters := [], returnType := none }, accessFlags := 0, code := none }
def k13c1 : Code := { maxStack := 2, maxLocals := 2, code := jdk_68_method_2_code, exceptionTable := #[], attributes := #[] }
def k13m1 : Method := { name := "<init>", desc := "(I)V", sig := { parameters := [.int], returnType := none }, accessFlags := 0, code := some k13c1 }
def k13c2 : Code := { maxStack := 1, maxLocals := 1, code := jdk_68_method_6_code, exceptionTable := #[], attributes := #[] }
def k13m2 : Method := { name := "length", desc := "()I", sig := { parameters := [], returnType := some .int }, accessFlags := 1, code := some k13c2 }
def k13c3 : Code := { maxStack := 4, maxLocals := 3, code := jdk_68_method_9_code, exceptionTable := #[], attributes := #[] }
def k13m3 : Method := { name := "ensureCapacityInternal", desc := "(I)V", sig := { parameters := [.int], returnType := none }, accessFlags := 2, code := some k13c3 }
def k13c4 : Code := { maxStack := 5, maxLocals := 6, code := jdk_68_method_10_code, exceptionTable := #[], attributes := #[] }
def k13m4 : Method := { name := "newCapacity", desc := "(I)I", sig := { parameters := [.int], returnType := some .int }, accessFlags := 2, code := some k13c4 }
def k13c5 : Code := { maxStack := 3, maxLocals := 3, code := jdk_68_method_22_code, exceptionTable := #[], attributes := #[] }
def k13m5 : Method := { name := "append", desc := "(Ljava/lang/String;)Ljava/lang/AbstractStringBuilder;", sig := { parameters := [(.object "java/lang/String")], returnType := some (.object "java/lang/AbstractStringBuilder") }, accessFlags := 1, code := some k13c5 }
def k13c6 : Code := { maxStack := 1, maxLocals := 1, code := jdk_68_method_64_code, exceptionTable := #[], attributes := #[] }
def k13m6 : Method := { name := "getValue", desc := "()[B", sig := { parameters := [], returnType := some (.array .byte) }, accessFlags := 16, code := some k13c6 }
def k13c7 : Code := { maxStack := 1, maxLocals := 1, code := jdk_68_method_68_code, exceptionTable := #[], attributes := #[] }
def k13m7 : Method := { name := "isLatin1", desc := "()Z", sig := { parameters := [], returnType := some .boolean }, accessFlags := 16, code := some k13c7 }
def k13c8 : Code := { maxStack := 2, maxLocals := 2, code := jdk_68_method_71_code, exceptionTable := #[], attributes := #[] }
def k13m8 : Method := { name := "inflateIfNeededFor", desc := "(Ljava/lang/String;)V", sig := { parameters := [(.object "java/lang/String")], returnType := none }, accessFlags := 2, code := some k13c8 }
def k13c9 : Code := { maxStack := 4, maxLocals := 3, code := jdk_68_method_73_code, exceptionTable := #[], attributes := #[] }
def k13m9 : Method := { name := "putStringAt", desc := "(ILjava/lang/String;)V", sig := { parameters := [.int, (.object "java/lang/String")], returnType := none }, accessFlags := 2, code := some k13c9 }
/-- java/lang/AbstractStringBuilder -/
def k13 : Class := { plain "java/lang/AbstractStringBuilder" (some 0) with
  accessFlags := 1056
  interfaces := #[12, 4]
  cf := some (fileOf pool13 10 #[] #[{ accessFlags := 0, nameIndex := 7, descriptorIndex := 8, attributes := #[] }, { accessFlags := 0, nameIndex := 7, descriptorIndex := 103, attributes := #[] }, { accessFlags := 1, nameIndex := 34, descriptorIndex := 35, attributes := #[] }, { accessFlags := 2, nameIndex := 102, descriptorIndex := 103, attributes := #[] }, { accessFlags := 2, nameIndex := 106, descriptorIndex := 107, attributes := #[] }, { accessFlags := 1, nameIndex := 45, descriptorIndex := 46, attributes := #[] }, { accessFlags := 16, nameIndex := 552, descriptorIndex := 403, attributes := #[] }, { accessFlags := 16, nameIndex := 85, descriptorIndex := 86, attributes := #[] }, { accessFlags := 2, nameIndex := 217, descriptorIndex := 69, attributes := #[] }, { accessFlags := 2, nameIndex := 210, descriptorIndex := 211, attributes := #[] }] 1056 4 #[444, 48] #[{ accessFlags := 0, nameIndex := 17, descriptorIndex := 14, attributes := #[] }, { accessFlags := 0, nameIndex := 24, descriptorIndex := 25, attributes := #[] }, { accessFlags := 0, nameIndex := 75, descriptorIndex := 21, attributes := #[] }, { accessFlags := 0, nameIndex := 81, descriptorIndex := 82, attributes := #[] }, { accessFlags := 26, nameIndex := 13, descriptorIndex := 14, attributes := #[] }])
  fields := #[{ name := "value", type := (.array .byte), accessFlags := 0, slot := 0, constantValue := 0 }, { name := "coder", type := .byte, accessFlags := 0, slot := 1, constantValue := 0 }, { name := "maybeLatin1", type := .boolean, accessFlags := 0, slot := 2, constantValue := 0 }, { name := "count", type := .int, accessFlags := 0, slot := 3, constantValue := 0 }, { name := "EMPTYVALUE", type := (.array .byte), accessFlags := 26, slot := 0, constantValue := 0 }]
  methods := #[k13m0, k13m1, k13m2, k13m3, k13m4, k13m5, k13m6, k13m7, k13m8, k13m9]
  instanceTypes := #[(.array .byte), .byte, .boolean, .int]
  staticTypes := #[(.array .byte)]
  resolved := Array.replicate 609 none
  statics := none }

def pool14 : Array CpInfo := pool [(1, .methodref 2 3), (0, .class_ 4), (0, .nameAndType 5 6), (0, u "java/lang/AbstractStringBuilder"), (0, u "<init>"), (0, u "(I)V"), (11, .class_ 20), (1, u "java/lang/String"), (3, .class_ 26), (1, u "java/lang/StringBuilder"), (0, u "append"), (0, u "(Ljava/lang/String;)Ljava/lang/StringBuilder;"), (0, .methodref 2 30), (0, .nameAndType 27 31), (0, u "(Ljava/lang/String;)Ljava/lang/AbstractStringBuilder;"), (105, .methodref 18 138), (0, .nameAndType 5 139), (0, u "(Ljava/lang/StringBuilder;)V"), (5, u "()V"), (10, u "()I"), (186, .methodref 2 344), (0, .nameAndType 345 156), (0, u "length"), (3, .class_ 350), (0, u "java/lang/Appendable"), (0, .class_ 352), (0, u "java/io/Serializable"), (0, .class_ 354), (0, u "java/lang/Comparable"), (0, .class_ 356), (0, u "java/lang/CharSequence"), (0, u "serialVersionUID"), (0, u "J"), (40, u "toString"), (0, u "()Ljava/lang/String;")] 21

def k14c0 : Code := { maxStack := 2, maxLocals := 1, code := jdk_67_method_1_code, exceptionTable := #[], attributes := #[] }
def k14m0 : Method := { name := "<init>", desc := "()V", sig := { parameters := [], returnType := none }, accessFlags := 1, code := some k14c0 }
def k14c1 : Code := { maxStack := 2, maxLocals := 2, code := jdk_67_method_7_code, exceptionTable := #[], attributes := #[] }
def k14m1 : Method := { name := "append", desc := "(Ljava/lang/String;)Ljava/lang/StringBuilder;", sig := { parameters := [(.object "java/lang/String")], returnType := some (.object "java/lang/StringBuilder") }, accessFlags := 1, code := some k14c1 }
def k14c2 : Code := { maxStack := 3, maxLocals := 1, code := jdk_67_method_42_code, exceptionTable := #[], attributes := #[] }
def k14m2 : Method := { name := "toString", desc := "()Ljava/lang/String;", sig := { parameters := [], returnType := some (.object "java/lang/String") }, accessFlags := 1, code := some k14c2 }
def k14c3 : Code := { maxStack := 1, maxLocals := 1, code := jdk_67_method_93_code, exceptionTable := #[], attributes := #[] }
def k14m3 : Method := { name := "length", desc := "()I", sig := { parameters := [], returnType := some .int }, accessFlags := 4161, code := some k14c3 }
/-- java/lang/StringBuilder -/
def k14 : Class := { plain "java/lang/StringBuilder" (some 13) with
  accessFlags := 49
  interfaces := #[12, 2, 3, 4]
  cf := some (fileOf pool14 24 #[] #[{ accessFlags := 1, nameIndex := 5, descriptorIndex := 145, attributes := #[] }, { accessFlags := 1, nameIndex := 27, descriptorIndex := 28, attributes := #[] }, { accessFlags := 1, nameIndex := 399, descriptorIndex := 400, attributes := #[] }, { accessFlags := 4161, nameIndex := 345, descriptorIndex := 156, attributes := #[] }] 49 2 #[349, 351, 353, 355] #[{ accessFlags := 24, nameIndex := 357, descriptorIndex := 358, attributes := #[] }])
  fields := #[{ name := "serialVersionUID", type := .long, accessFlags := 24, slot := 0, constantValue := 0 }]
  methods := #[k14m0, k14m1, k14m2, k14m3]
  instanceTypes := #[(.array .byte), .byte, .boolean, .int]
  staticTypes := #[.long]
  resolved := Array.replicate 422 none
  statics := none }

def pool15 : Array CpInfo := pool [(2, .class_ 4), (1, u "java/lang/Object"), (0, u "<init>"), (0, u "()V"), (1, .class_ 10), (1, u "java/lang/System"), (0, u "allowSecurityManager"), (0, u "I"), (16, u "cons"), (0, u "Ljava/io/Console;"), (77, .class_ 110), (1, u "java/lang/System$CallersHolder"), (43, u "initialErrStream"), (0, u "Ljava/io/PrintStream;"), (19, u "security"), (0, u "Ljava/lang/SecurityManager;"), (31, .class_ 209), (0, u "java/lang/System$1"), (7, u "props"), (0, u "Ljava/util/Properties;"), (2, u "lineSeparator"), (0, u "Ljava/lang/String;"), (96, .class_ 321), (1, u "java/lang/System$LoggerFinder"), (5, .class_ 328), (0, u "java/lang/System$Logger"), (67, u "err"), (2, u "out"), (91, u "notSupportedJnuEncoding"), (15, u "in"), (17, u "initialIn"), (0, u "Ljava/io/InputStream;"), (35, u "bootLayer"), (0, u "Ljava/lang/ModuleLayer;"), (99, .class_ 664), (0, u "java/lang/System$2"), (9, u "NEVER"), (2, u "MAYBE"), (49, u "arraycopy"), (0, u "(Ljava/lang/Object;ILjava/lang/Object;II)V"), (72, .class_ 802), (0, u "java/lang/System$Logger$Level")] 31

def k15m0 : Method := { name := "<init>", desc := "()V", sig := { parameters := [], returnType := none }, accessFlags := 2, code := none }
def k15m1 : Method := { name := "arraycopy", desc := "(Ljava/lang/Object;ILjava/lang/Object;II)V", sig := { parameters := [(.object "java/lang/Object"), .int, (.object "java/lang/Object"), .int, .int], returnType := none }, accessFlags := 265, code := none }
/-- java/lang/System -/
def k15 : Class := { plain "java/lang/System" (some 0) with
  accessFlags := 49
  interfaces := #[]
  cf := some (fileOf pool15 8 #[.nestMembers #[319, 327, 801, 108, 663, 208]] #[{ accessFlags := 2, nameIndex := 5, descriptorIndex := 6, attributes := #[] }, { accessFlags := 265, nameIndex := 727, descriptorIndex := 728, attributes := #[] }] 49 2 #[] #[{ accessFlags := 25, nameIndex := 507, descriptorIndex := 526, attributes := #[] }, { accessFlags := 25, nameIndex := 399, descriptorIndex := 155, attributes := #[] }, { accessFlags := 25, nameIndex := 396, descriptorIndex := 155, attributes := #[] }, { accessFlags := 10, nameIndex := 525, descriptorIndex := 526, attributes := #[] }, { accessFlags := 26, nameIndex := 674, descriptorIndex := 12, attributes := #[] }, { accessFlags := 26, nameIndex := 677, descriptorIndex := 12, attributes := #[] }, { accessFlags := 10, nameIndex := 11, descriptorIndex := 12, attributes := #[] }, { accessFlags := 74, nameIndex := 175, descriptorIndex := 176, attributes := #[] }, { accessFlags := 10, nameIndex := 491, descriptorIndex := 222, attributes := #[] }, { accessFlags := 74, nameIndex := 29, descriptorIndex := 30, attributes := #[] }, { accessFlags := 74, nameIndex := 154, descriptorIndex := 155, attributes := #[] }, { accessFlags := 10, nameIndex := 217, descriptorIndex := 218, attributes := #[] }, { accessFlags := 10, nameIndex := 221, descriptorIndex := 222, attributes := #[] }, { accessFlags := 8, nameIndex := 562, descriptorIndex := 563, attributes := #[] }])
  fields := #[{ name := "in", type := (.object "java/io/InputStream"), accessFlags := 25, slot := 0, constantValue := 0 }, { name := "out", type := (.object "java/io/PrintStream"), accessFlags := 25, slot := 1, constantValue := 0 }, { name := "err", type := (.object "java/io/PrintStream"), accessFlags := 25, slot := 2, constantValue := 0 }, { name := "initialIn", type := (.object "java/io/InputStream"), accessFlags := 10, slot := 3, constantValue := 0 }, { name := "NEVER", type := .int, accessFlags := 26, slot := 4, constantValue := 0 }, { name := "MAYBE", type := .int, accessFlags := 26, slot := 5, constantValue := 0 }, { name := "allowSecurityManager", type := .int, accessFlags := 10, slot := 6, constantValue := 0 }, { name := "security", type := (.object "java/lang/SecurityManager"), accessFlags := 74, slot := 7, constantValue := 0 }, { name := "notSupportedJnuEncoding", type := (.object "java/lang/String"), accessFlags := 10, slot := 8, constantValue := 0 }, { name := "cons", type := (.object "java/io/Console"), accessFlags := 74, slot := 9, constantValue := 0 }, { name := "initialErrStream", type := (.object "java/io/PrintStream"), accessFlags := 74, slot := 10, constantValue := 0 }, { name := "props", type := (.object "java/util/Properties"), accessFlags := 10, slot := 11, constantValue := 0 }, { name := "lineSeparator", type := (.object "java/lang/String"), accessFlags := 10, slot := 12, constantValue := 0 }, { name := "bootLayer", type := (.object "java/lang/ModuleLayer"), accessFlags := 8, slot := 13, constantValue := 0 }]
  methods := #[k15m0, k15m1]
  instanceTypes := #[]
  staticTypes := #[(.object "java/io/InputStream"), (.object "java/io/PrintStream"), (.object "java/io/PrintStream"), (.object "java/io/InputStream"), .int, .int, .int, (.object "java/lang/SecurityManager"), (.object "java/lang/String"), (.object "java/io/Console"), (.object "java/io/PrintStream"), (.object "java/util/Properties"), (.object "java/lang/String"), (.object "java/lang/ModuleLayer")]
  resolved := Array.replicate 834 none
  statics := none }

def pool16 : Array CpInfo := pool [(9, u "<init>"), (6, .class_ 18), (1, u "java/lang/Object"), (0, u "()V"), (1, .class_ 23), (1, u "jdk/internal/util/ArraysSupport"), (0, u "LOG2_ARRAY_LONG_INDEX_SCALE"), (0, u "I"), (2, u "U"), (0, u "Ljdk/internal/misc/Unsafe;"), (8, u "BIG_ENDIAN"), (0, u "Z"), (8, u "LOG2_BYTE_BIT_SIZE"), (4, u "LOG2_ARRAY_INT_INDEX_SCALE"), (54, u "JLA"), (0, u "Ljdk/internal/access/JavaLangAccess;"), (11, u "LOG2_ARRAY_BOOLEAN_INDEX_SCALE"), (9, u "LOG2_ARRAY_BYTE_INDEX_SCALE"), (5, u "LOG2_ARRAY_CHAR_INDEX_SCALE"), (5, u "LOG2_ARRAY_SHORT_INDEX_SCALE"), (18, u "LOG2_ARRAY_FLOAT_INDEX_SCALE"), (24, u "LOG2_ARRAY_DOUBLE_INDEX_SCALE"), (6, .methodref 195 196), (0, .class_ 197), (0, .nameAndType 198 199), (0, u "java/lang/Math"), (0, u "max"), (0, u "(II)I"), (0, .integer 2147483639), (76, u "T_BOOLEAN"), (2, u "T_CHAR"), (1, u "T_FLOAT"), (1, u "T_DOUBLE"), (1, u "T_BYTE"), (1, u "T_SHORT"), (1, u "T_INT"), (1, u "T_LONG"), (1, u "SOFT_MAX_ARRAY_LENGTH"), (56, u "newLength"), (0, u "(III)I")] 25

def k16m0 : Method := { name := "<init>", desc := "()V", sig := { parameters := [], returnType := none }, accessFlags := 2, code := none }
def k16c1 : Code := { maxStack := 3, maxLocals := 4, code := jdk_48_method_27_code, exceptionTable := #[], attributes := #[] }
def k16m1 : Method := { name := "newLength", desc := "(III)I", sig := { parameters := [.int, .int, .int], returnType := some .int }, accessFlags := 9, code := some k16c1 }
/-- jdk/internal/util/ArraysSupport -/
def k16 : Class := { plain "jdk/internal/util/ArraysSupport" (some 0) with
  accessFlags := 33
  interfaces := #[]
  cf := some (fileOf pool16 21 #[] #[{ accessFlags := 2, nameIndex := 9, descriptorIndex := 19, attributes := #[] }, { accessFlags := 9, nameIndex := 351, descriptorIndex := 352, attributes := #[] }] 33 16 #[] #[{ accessFlags := 24, nameIndex := 28, descriptorIndex := 29, attributes := #[] }, { accessFlags := 26, nameIndex := 38, descriptorIndex := 39, attributes := #[] }, { accessFlags := 25, nameIndex := 121, descriptorIndex := 25, attributes := #[] }, { accessFlags := 25, nameIndex := 131, descriptorIndex := 25, attributes := #[] }, { accessFlags := 25, nameIndex := 137, descriptorIndex := 25, attributes := #[] }, { accessFlags := 25, nameIndex := 143, descriptorIndex := 25, attributes := #[] }, { accessFlags := 25, nameIndex := 53, descriptorIndex := 25, attributes := #[] }, { accessFlags := 25, nameIndex := 24, descriptorIndex := 25, attributes := #[] }, { accessFlags := 25, nameIndex := 162, descriptorIndex := 25, attributes := #[] }, { accessFlags := 25, nameIndex := 187, descriptorIndex := 25, attributes := #[] }, { accessFlags := 26, nameIndex := 48, descriptorIndex := 25, attributes := #[] }, { accessFlags := 25, nameIndex := 277, descriptorIndex := 25, attributes := #[] }, { accessFlags := 25, nameIndex := 280, descriptorIndex := 25, attributes := #[] }, { accessFlags := 25, nameIndex := 282, descriptorIndex := 25, attributes := #[] }, { accessFlags := 25, nameIndex := 284, descriptorIndex := 25, attributes := #[] }, { accessFlags := 25, nameIndex := 286, descriptorIndex := 25, attributes := #[] }, { accessFlags := 25, nameIndex := 288, descriptorIndex := 25, attributes := #[] }, { accessFlags := 25, nameIndex := 290, descriptorIndex := 25, attributes := #[] }, { accessFlags := 25, nameIndex := 292, descriptorIndex := 25, attributes := #[] }, { accessFlags := 26, nameIndex := 108, descriptorIndex := 109, attributes := #[] }, { accessFlags := 25, nameIndex := 294, descriptorIndex := 25, attributes := #[] }])
  fields := #[{ name := "U", type := (.object "jdk/internal/misc/Unsafe"), accessFlags := 24, slot := 0, constantValue := 0 }, { name := "BIG_ENDIAN", type := .boolean, accessFlags := 26, slot := 1, constantValue := 0 }, { name := "LOG2_ARRAY_BOOLEAN_INDEX_SCALE", type := .int, accessFlags := 25, slot := 2, constantValue := 0 }, { name := "LOG2_ARRAY_BYTE_INDEX_SCALE", type := .int, accessFlags := 25, slot := 3, constantValue := 0 }, { name := "LOG2_ARRAY_CHAR_INDEX_SCALE", type := .int, accessFlags := 25, slot := 4, constantValue := 0 }, { name := "LOG2_ARRAY_SHORT_INDEX_SCALE", type := .int, accessFlags := 25, slot := 5, constantValue := 0 }, { name := "LOG2_ARRAY_INT_INDEX_SCALE", type := .int, accessFlags := 25, slot := 6, constantValue := 0 }, { name := "LOG2_ARRAY_LONG_INDEX_SCALE", type := .int, accessFlags := 25, slot := 7, constantValue := 0 }, { name := "LOG2_ARRAY_FLOAT_INDEX_SCALE", type := .int, accessFlags := 25, slot := 8, constantValue := 0 }, { name := "LOG2_ARRAY_DOUBLE_INDEX_SCALE", type := .int, accessFlags := 25, slot := 9, constantValue := 0 }, { name := "LOG2_BYTE_BIT_SIZE", type := .int, accessFlags := 26, slot := 10, constantValue := 0 }, { name := "T_BOOLEAN", type := .int, accessFlags := 25, slot := 11, constantValue := 0 }, { name := "T_CHAR", type := .int, accessFlags := 25, slot := 12, constantValue := 0 }, { name := "T_FLOAT", type := .int, accessFlags := 25, slot := 13, constantValue := 0 }, { name := "T_DOUBLE", type := .int, accessFlags := 25, slot := 14, constantValue := 0 }, { name := "T_BYTE", type := .int, accessFlags := 25, slot := 15, constantValue := 0 }, { name := "T_SHORT", type := .int, accessFlags := 25, slot := 16, constantValue := 0 }, { name := "T_INT", type := .int, accessFlags := 25, slot := 17, constantValue := 0 }, { name := "T_LONG", type := .int, accessFlags := 25, slot := 18, constantValue := 0 }, { name := "JLA", type := (.object "jdk/internal/access/JavaLangAccess"), accessFlags := 26, slot := 19, constantValue := 0 }, { name := "SOFT_MAX_ARRAY_LENGTH", type := .int, accessFlags := 25, slot := 20, constantValue := 0 }]
  methods := #[k16m0, k16m1]
  instanceTypes := #[]
  staticTypes := #[(.object "jdk/internal/misc/Unsafe"), .boolean, .int, .int, .int, .int, .int, .int, .int, .int, .int, .int, .int, .int, .int, .int, .int, .int, .int, (.object "jdk/internal/access/JavaLangAccess"), .int]
  resolved := Array.replicate 378 none
  statics := none }

def pool17 : Array CpInfo := pool [(1, .class_ 2), (0, u "java/lang/Math"), (1, .class_ 6), (1, u "java/lang/Object"), (0, u "<init>"), (0, u "()V"), (89, .class_ 100), (1, u "java/lang/Math$RandomNumberGeneratorHolder"), (71, u "negativeZeroFloatBits"), (0, u "J"), (2, u "negativeZeroDoubleBits"), (21, u "max"), (2, u "min"), (43, u "$assertionsDisabled"), (0, u "Z"), (88, u "(II)I"), (2, u "twoToTheDoubleScaleDown"), (0, u "D"), (4, u "twoToTheDoubleScaleUp"), (9, u "E"), (3, u "PI"), (2, u "TAU"), (2, u "DEGREES_TO_RADIANS"), (0, u "RADIANS_TO_DEGREES")] 94

def k17m0 : Method := { name := "<init>", desc := "()V", sig := { parameters := [], returnType := none }, accessFlags := 2, code := none }
def k17c1 : Code := { maxStack := 2, maxLocals := 2, code := jdk_29_method_65_code, exceptionTable := #[], attributes := #[] }
def k17m1 : Method := { name := "max", desc := "(II)I", sig := { parameters := [.int, .int], returnType := some .int }, accessFlags := 9, code := some k17c1 }
def k17c2 : Code := { maxStack := 2, maxLocals := 2, code := jdk_29_method_69_code, exceptionTable := #[], attributes := #[] }
def k17m2 : Method := { name := "min", desc := "(II)I", sig := { parameters := [.int, .int], returnType := some .int }, accessFlags := 9, code := some k17c2 }
/-- java/lang/Math -/
def k17 : Class := { plain "java/lang/Math" (some 0) with
  accessFlags := 49
  interfaces := #[]
  cf := some (fileOf pool17 1 #[.nestMembers #[98]] #[{ accessFlags := 2, nameIndex := 7, descriptorIndex := 8, attributes := #[] }, { accessFlags := 9, nameIndex := 198, descriptorIndex := 335, attributes := #[] }, { accessFlags := 9, nameIndex := 201, descriptorIndex := 335, attributes := #[] }] 49 4 #[] #[{ accessFlags := 25, nameIndex := 354, descriptorIndex := 339, attributes := #[] }, { accessFlags := 25, nameIndex := 358, descriptorIndex := 339, attributes := #[] }, { accessFlags := 25, nameIndex := 361, descriptorIndex := 339, attributes := #[] }, { accessFlags := 26, nameIndex := 364, descriptorIndex := 339, attributes := #[] }, { accessFlags := 26, nameIndex := 365, descriptorIndex := 339, attributes := #[] }, { accessFlags := 26, nameIndex := 172, descriptorIndex := 173, attributes := #[] }, { accessFlags := 26, nameIndex := 176, descriptorIndex := 173, attributes := #[] }, { accessFlags := 8, nameIndex := 344, descriptorIndex := 339, attributes := #[] }, { accessFlags := 8, nameIndex := 338, descriptorIndex := 339, attributes := #[] }, { accessFlags := 4120, nameIndex := 245, descriptorIndex := 246, attributes := #[] }])
  fields := #[{ name := "E", type := .double, accessFlags := 25, slot := 0, constantValue := 0 }, { name := "PI", type := .double, accessFlags := 25, slot := 1, constantValue := 0 }, { name := "TAU", type := .double, accessFlags := 25, slot := 2, constantValue := 0 }, { name := "DEGREES_TO_RADIANS", type := .double, accessFlags := 26, slot := 3, constantValue := 0 }, { name := "RADIANS_TO_DEGREES", type := .double, accessFlags := 26, slot := 4, constantValue := 0 }, { name := "negativeZeroFloatBits", type := .long, accessFlags := 26, slot := 5, constantValue := 0 }, { name := "negativeZeroDoubleBits", type := .long, accessFlags := 26, slot := 6, constantValue := 0 }, { name := "twoToTheDoubleScaleUp", type := .double, accessFlags := 8, slot := 7, constantValue := 0 }, { name := "twoToTheDoubleScaleDown", type := .double, accessFlags := 8, slot := 8, constantValue := 0 }, { name := "$assertionsDisabled", type := .boolean, accessFlags := 4120, slot := 9, constantValue := 0 }]
  methods := #[k17m0, k17m1, k17m2]
  instanceTypes := #[]
  staticTypes := #[.double, .double, .double, .double, .double, .long, .long, .double, .double, .boolean]
  resolved := Array.replicate 460 none
  statics := none }

def pool18 : Array CpInfo := pool [(2, .class_ 4), (1, u "java/lang/Object"), (0, u "<init>"), (0, u "()V"), (7, .class_ 16), (1, u "java/util/Arrays"), (57, .class_ 76), (1, u "java/util/Arrays$NaturalOrder"), (36, .class_ 115), (1, u "java/util/Arrays$LegacyMergeSort"), (1, u "Z"), (21, u "copyOfRange"), (10, .methodref 151 152), (0, .class_ 153), (0, .nameAndType 154 155), (0, u "java/lang/System"), (0, u "arraycopy"), (0, u "(Ljava/lang/Object;ILjava/lang/Object;II)V"), (146, u "copyOf"), (1, .methodref 305 306), (0, .class_ 307), (0, .nameAndType 308 309), (0, u "java/lang/Math"), (0, u "min"), (0, u "(II)I"), (29, .methodref 14 340), (0, .nameAndType 341 342), (0, u "copyOfRangeByte"), (0, u "([BII)[B"), (0, .methodref 14 344), (0, .nameAndType 345 346), (0, u "checkLength"), (0, u "(II)V"), (28, .class_ 376), (0, u "java/util/Arrays$ArrayList"), (68, u "$assertionsDisabled"), (269, u "MIN_ARRAY_SORT_GRAN"), (0, u "I"), (2, u "INSERTIONSORT_THRESHOLD"), (149, u "([BI)[B"), (105, .class_ 976), (0, u "java/util/Arrays$ArrayItr")] 52

def k18m0 : Method := { name := "<init>", desc := "()V", sig := { parameters := [], returnType := none }, accessFlags := 2, code := none }
def k18c1 : Code := { maxStack := 6, maxLocals := 3, code := jdk_65_method_121_code, exceptionTable := #[], attributes := #[] }
def k18m1 : Method := { name := "copyOf", desc := "([BI)[B", sig := { parameters := [(.array .byte), .int], returnType := some (.array .byte) }, accessFlags := 9, code := some k18c1 }
def k18c2 : Code := { maxStack := 4, maxLocals := 2, code := jdk_65_method_131_code, exceptionTable := #[], attributes := #[] }
def k18m2 : Method := { name := "checkLength", desc := "(II)V", sig := { parameters := [.int, .int], returnType := none }, accessFlags := 10, code := some k18c2 }
def k18c3 : Code := { maxStack := 3, maxLocals := 3, code := jdk_65_method_132_code, exceptionTable := #[], attributes := #[] }
def k18m3 : Method := { name := "copyOfRange", desc := "([BII)[B", sig := { parameters := [(.array .byte), .int, .int], returnType := some (.array .byte) }, accessFlags := 9, code := some k18c3 }
def k18c4 : Code := { maxStack := 6, maxLocals := 5, code := jdk_65_method_133_code, exceptionTable := #[], attributes := #[] }
def k18m4 : Method := { name := "copyOfRangeByte", desc := "([BII)[B", sig := { parameters := [(.array .byte), .int, .int], returnType := some (.array .byte) }, accessFlags := 10, code := some k18c4 }
/-- java/util/Arrays -/
def k18 : Class := { plain "java/util/Arrays" (some 0) with
  accessFlags := 49
  interfaces := #[]
  cf := some (fileOf pool18 14 #[.nestMembers #[975, 375, 113, 74]] #[{ accessFlags := 2, nameIndex := 5, descriptorIndex := 6, attributes := #[] }, { accessFlags := 9, nameIndex := 302, descriptorIndex := 869, attributes := #[] }, { accessFlags := 10, nameIndex := 345, descriptorIndex := 346, attributes := #[] }, { accessFlags := 9, nameIndex := 139, descriptorIndex := 342, attributes := #[] }, { accessFlags := 10, nameIndex := 341, descriptorIndex := 342, attributes := #[] }] 49 2 #[] #[{ accessFlags := 26, nameIndex := 715, descriptorIndex := 716, attributes := #[] }, { accessFlags := 26, nameIndex := 719, descriptorIndex := 716, attributes := #[] }, { accessFlags := 4120, nameIndex := 445, descriptorIndex := 117, attributes := #[] }])
  fields := #[{ name := "MIN_ARRAY_SORT_GRAN", type := .int, accessFlags := 26, slot := 0, constantValue := 0 }, { name := "INSERTIONSORT_THRESHOLD", type := .int, accessFlags := 26, slot := 1, constantValue := 0 }, { name := "$assertionsDisabled", type := .boolean, accessFlags := 4120, slot := 2, constantValue := 0 }]
  methods := #[k18m0, k18m1, k18m2, k18m3, k18m4]
  instanceTypes := #[]
  staticTypes := #[.int, .int, .boolean]
  resolved := Array.replicate 1029 none
  statics := none }

def pool19 : Array CpInfo := pool [(4, .class_ 6), (1, u "java/lang/Object"), (0, u "<init>"), (0, u "()V"), (5, .class_ 16), (1, u "java/lang/StringLatin1"), (104, u "$assertionsDisabled"), (0, u "Z"), (98, .class_ 223), (1, u "java/lang/StringLatin1$LinesSpliterator"), (57, u "equals"), (0, u "([B[B)Z"), (107, .class_ 391), (0, u "java/lang/StringLatin1$CharsSpliterator")] 3

def k19m0 : Method := { name := "<init>", desc := "()V", sig := { parameters := [], returnType := none }, accessFlags := 0, code := none }
def k19c1 : Code := { maxStack := 3, maxLocals := 3, code := jdk_43_method_13_code, exceptionTable := #[], attributes := #[] }
def k19m1 : Method := { name := "equals", desc := "([B[B)Z", sig := { parameters := [(.array .byte), (.array .byte)], returnType := some .boolean }, accessFlags := 9, code := some k19c1 }
/-- java/lang/StringLatin1 -/
def k19 : Class := { plain "java/lang/StringLatin1" (some 0) with
  accessFlags := 48
  interfaces := #[]
  cf := some (fileOf pool19 14 #[.nestMembers #[390, 221]] #[{ accessFlags := 0, nameIndex := 7, descriptorIndex := 8, attributes := #[] }, { accessFlags := 9, nameIndex := 281, descriptorIndex := 282, attributes := #[] }] 48 4 #[] #[{ accessFlags := 4120, nameIndex := 121, descriptorIndex := 122, attributes := #[] }])
  fields := #[{ name := "$assertionsDisabled", type := .boolean, accessFlags := 4120, slot := 0, constantValue := 0 }]
  methods := #[k19m0, k19m1]
  instanceTypes := #[]
  staticTypes := #[.boolean]
  resolved := Array.replicate 395 none
  statics := none }

def pool20 : Array CpInfo := pool [(2, .class_ 4), (1, u "java/lang/Object"), (0, u "<init>"), (0, u "()V"), (17, .class_ 26), (1, u "jdk/internal/util/Preconditions"), (28, .class_ 56), (0, u "jdk/internal/util/Preconditions$4"), (57, .class_ 115), (0, u "jdk/internal/util/Preconditions$1"), (7, u "SIOOBE_FORMATTER"), (0, u "Ljava/util/function/BiFunction;"), (0, .class_ 126), (0, u "jdk/internal/util/Preconditions$2"), (3, u "AIOOBE_FORMATTER"), (0, .class_ 132), (0, u "jdk/internal/util/Preconditions$3"), (3, u "IOOBE_FORMATTER")] 57

def k20m0 : Method := { name := "<init>", desc := "()V", sig := { parameters := [], returnType := none }, accessFlags := 1, code := none }
/-- jdk/internal/util/Preconditions -/
def k20 : Class := { plain "jdk/internal/util/Preconditions" (some 0) with
  accessFlags := 33
  interfaces := #[]
  cf := some (fileOf pool20 24 #[.nestMembers #[55, 131, 125, 114]] #[{ accessFlags := 1, nameIndex := 5, descriptorIndex := 6, attributes := #[] }] 33 2 #[] #[{ accessFlags := 25, nameIndex := 123, descriptorIndex := 124, attributes := #[] }, { accessFlags := 25, nameIndex := 130, descriptorIndex := 124, attributes := #[] }, { accessFlags := 25, nameIndex := 136, descriptorIndex := 124, attributes := #[] }])
  fields := #[{ name := "SIOOBE_FORMATTER", type := (.object "java/util/function/BiFunction"), accessFlags := 25, slot := 0, constantValue := 0 }, { name := "AIOOBE_FORMATTER", type := (.object "java/util/function/BiFunction"), accessFlags := 25, slot := 1, constantValue := 0 }, { name := "IOOBE_FORMATTER", type := (.object "java/util/function/BiFunction"), accessFlags := 25, slot := 2, constantValue := 0 }]
  methods := #[k20m0]
  instanceTypes := #[]
  staticTypes := #[(.object "java/util/function/BiFunction"), (.object "java/util/function/BiFunction"), (.object "java/util/function/BiFunction")]
  resolved := Array.replicate 194 none
  statics := some 2 }

def pool21 : Array CpInfo := pool [(2, .class_ 4), (1, u "java/lang/Object"), (0, u "<init>"), (0, u "()V"), (12, .class_ 20), (0, u "java/util/Collections"), (63, u "r"), (0, u "Ljava/util/Random;"), (80, .class_ 167), (0, u "java/util/Collections$UnmodifiableCollection"), (6, .class_ 175), (0, u "java/util/Collections$UnmodifiableSequencedCollection"), (6, .class_ 183), (0, u "java/util/Collections$UnmodifiableSet"), (6, .class_ 191), (0, u "java/util/Collections$UnmodifiableSequencedSet"), (6, .class_ 199), (0, u "java/util/Collections$UnmodifiableSortedSet"), (6, .class_ 207), (0, u "java/util/Collections$UnmodifiableNavigableSet"), (4, .class_ 213), (0, u "java/util/Collections$UnmodifiableList"), (1, .class_ 216), (0, u "java/util/Collections$UnmodifiableRandomAccessList"), (6, .class_ 224), (0, u "java/util/Collections$UnmodifiableMap"), (6, .class_ 232), (0, u "java/util/Collections$UnmodifiableSequencedMap"), (4, .class_ 238), (0, u "java/util/Collections$UnmodifiableSortedMap"), (6, .class_ 246), (0, u "java/util/Collections$UnmodifiableNavigableMap"), (3, .class_ 251), (0, u "java/util/Collections$SynchronizedCollection"), (4, .class_ 257), (0, u "java/util/Collections$SynchronizedSet"), (4, .class_ 263), (0, u "java/util/Collections$SynchronizedSortedSet"), (1, .class_ 266), (0, u "java/util/Collections$SynchronizedNavigableSet"), (1, .class_ 269), (0, u "java/util/Collections$SynchronizedRandomAccessList"), (1, .class_ 272), (0, u "java/util/Collections$SynchronizedList"), (5, .class_ 279), (0, u "java/util/Collections$SynchronizedMap"), (1, .class_ 282), (0, u "java/util/Collections$SynchronizedSortedMap"), (1, .class_ 285), (0, u "java/util/Collections$SynchronizedNavigableMap"), (1, .class_ 288), (0, u "java/util/Collections$CheckedCollection"), (11, .class_ 301), (0, u "java/util/Collections$CheckedQueue"), (3, .class_ 306), (0, u "java/util/Collections$CheckedSet"), (3, .class_ 311), (0, u "java/util/Collections$CheckedSortedSet"), (3, .class_ 316), (0, u "java/util/Collections$CheckedNavigableSet"), (3, .class_ 321), (0, u "java/util/Collections$CheckedRandomAccessList"), (3, .class_ 326), (0, u "java/util/Collections$CheckedList"), (1, .class_ 329), (0, u "java/util/Collections$CheckedMap"), (3, .class_ 334), (0, u "java/util/Collections$CheckedSortedMap"), (3, .class_ 339), (0, u "java/util/Collections$CheckedNavigableMap"), (4, .class_ 346), (1, u "java/util/Collections$EmptyIterator"), (3, .class_ 352), (1, u "java/util/Collections$EmptyListIterator"), (2, .class_ 357), (1, u "java/util/Collections$EmptyEnumeration"), (4, u "EMPTY_SET"), (0, u "Ljava/util/Set;"), (6, u "EMPTY_LIST"), (0, u "Ljava/util/List;"), (2, u "EMPTY_MAP"), (0, u "Ljava/util/Map;"), (4, .class_ 381), (0, u "java/util/Collections$SingletonSet"), (2, .class_ 385), (0, u "java/util/Collections$1"), (1, .class_ 388), (0, u "java/util/Collections$2"), (1, .class_ 391), (0, u "java/util/Collections$SingletonList"), (1, .class_ 394), (0, u "java/util/Collections$SingletonMap"), (22, .class_ 418), (0, u "java/util/Collections$CopiesList"), (4, .class_ 425), (1, u "java/util/Collections$ReverseComparator"), (8, .class_ 435), (0, u "java/util/Collections$ReverseComparator2"), (6, .class_ 443), (0, u "java/util/Collections$3"), (25, .class_ 470), (0, u "java/util/Collections$SetFromMap"), (2, .class_ 474), (0, u "java/util/Collections$SequencedSetFromMap"), (3, .class_ 479), (0, u "java/util/Collections$AsLIFOQueue"), (11, .class_ 492), (0, u "java/util/Collections$EmptySet"), (1, .class_ 495), (0, u "java/util/Collections$EmptyList"), (1, .class_ 498), (0, u "java/util/Collections$EmptyMap"), (1, u "BINARYSEARCH_THRESHOLD"), (0, u "I"), (2, u "REVERSE_THRESHOLD"), (1, u "SHUFFLE_THRESHOLD"), (1, u "FILL_THRESHOLD"), (1, u "ROTATE_THRESHOLD"), (1, u "COPY_THRESHOLD"), (1, u "REPLACEALL_THRESHOLD"), (1, u "INDEXOFSUBLIST_THRESHOLD"), (333, .class_ 851), (0, u "java/util/Collections$CheckedMap$CheckedEntrySet"), (0, .class_ 853), (0, u "java/util/Collections$CheckedMap$CheckedEntrySet$CheckedEntry"), (0, .class_ 855), (0, u "java/util/Collections$CheckedMap$CheckedEntrySet$1"), (0, .class_ 857), (0, u "java/util/Collections$CheckedList$1"), (0, .class_ 859), (0, u "java/util/Collections$CheckedCollection$1"), (0, .class_ 861), (0, u "java/util/Collections$UnmodifiableNavigableMap$EmptyNavigableMap"), (0, .class_ 863), (0, u "java/util/Collections$UnmodifiableMap$UnmodifiableEntrySet"), (0, .class_ 865), (0, u "java/util/Collections$UnmodifiableMap$UnmodifiableEntrySet$UnmodifiableEntry"), (0, .class_ 867), (0, u "java/util/Collections$UnmodifiableMap$UnmodifiableEntrySet$UnmodifiableEntrySetSpliterator"), (0, .class_ 869), (0, u "java/util/Collections$UnmodifiableMap$UnmodifiableEntrySet$1"), (0, .class_ 871), (0, u "java/util/Collections$UnmodifiableList$1"), (0, .class_ 873), (0, u "java/util/Collections$UnmodifiableNavigableSet$EmptyNavigableSet"), (0, .class_ 875), (0, u "java/util/Collections$UnmodifiableCollection$1")] 57

def k21m0 : Method := { name := "<init>", desc := "()V", sig := { parameters := [], returnType := none }, accessFlags := 2, code := none }
/-- java/util/Collections -/
def k21 : Class := { plain "java/util/Collections" (some 0) with
  accessFlags := 33
  interfaces := #[]
  cf := some (fileOf pool21 19 #[.nestMembers #[478, 473, 469, 434, 423, 417, 393, 390, 380, 497, 494, 491, 355, 350, 344, 338, 333, 328, 850, 852, 854, 320, 325, 856, 315, 310, 305, 300, 287, 858, 284, 281, 278, 268, 271, 265, 262, 256, 250, 245, 860, 237, 231, 223, 862, 864, 866, 868, 215, 212, 870, 206, 872, 198, 190, 182, 174, 166, 874, 442, 387, 384]] #[{ accessFlags := 2, nameIndex := 5, descriptorIndex := 6, attributes := #[] }] 33 2 #[] #[{ accessFlags := 26, nameIndex := 500, descriptorIndex := 501, attributes := #[] }, { accessFlags := 26, nameIndex := 504, descriptorIndex := 501, attributes := #[] }, { accessFlags := 26, nameIndex := 506, descriptorIndex := 501, attributes := #[] }, { accessFlags := 26, nameIndex := 508, descriptorIndex := 501, attributes := #[] }, { accessFlags := 26, nameIndex := 510, descriptorIndex := 501, attributes := #[] }, { accessFlags := 26, nameIndex := 512, descriptorIndex := 501, attributes := #[] }, { accessFlags := 26, nameIndex := 514, descriptorIndex := 501, attributes := #[] }, { accessFlags := 26, nameIndex := 516, descriptorIndex := 501, attributes := #[] }, { accessFlags := 10, nameIndex := 84, descriptorIndex := 85, attributes := #[] }, { accessFlags := 25, nameIndex := 362, descriptorIndex := 363, attributes := #[] }, { accessFlags := 25, nameIndex := 370, descriptorIndex := 371, attributes := #[] }, { accessFlags := 25, nameIndex := 374, descriptorIndex := 375, attributes := #[] }])
  fields := #[{ name := "BINARYSEARCH_THRESHOLD", type := .int, accessFlags := 26, slot := 0, constantValue := 0 }, { name := "REVERSE_THRESHOLD", type := .int, accessFlags := 26, slot := 1, constantValue := 0 }, { name := "SHUFFLE_THRESHOLD", type := .int, accessFlags := 26, slot := 2, constantValue := 0 }, { name := "FILL_THRESHOLD", type := .int, accessFlags := 26, slot := 3, constantValue := 0 }, { name := "ROTATE_THRESHOLD", type := .int, accessFlags := 26, slot := 4, constantValue := 0 }, { name := "COPY_THRESHOLD", type := .int, accessFlags := 26, slot := 5, constantValue := 0 }, { name := "REPLACEALL_THRESHOLD", type := .int, accessFlags := 26, slot := 6, constantValue := 0 }, { name := "INDEXOFSUBLIST_THRESHOLD", type := .int, accessFlags := 26, slot := 7, constantValue := 0 }, { name := "r", type := (.object "java/util/Random"), accessFlags := 10, slot := 8, constantValue := 0 }, { name := "EMPTY_SET", type := (.object "java/util/Set"), accessFlags := 25, slot := 9, constantValue := 0 }, { name := "EMPTY_LIST", type := (.object "java/util/List"), accessFlags := 25, slot := 10, constantValue := 0 }, { name := "EMPTY_MAP", type := (.object "java/util/Map"), accessFlags := 25, slot := 11, constantValue := 0 }]
  methods := #[k21m0]
  instanceTypes := #[]
  staticTypes := #[.int, .int, .int, .int, .int, .int, .int, .int, (.object "java/util/Random"), (.object "java/util/Set"), (.object "java/util/List"), (.object "java/util/Map")]
  resolved := Array.replicate 933 none
  statics := some 3 }

def pool22 : Array CpInfo := pool [(8, .class_ 10), (1, u "java/lang/Iterable"), (24, .class_ 36), (0, u "java/lang/Object")] 25

/-- java/lang/Iterable -/
def k22 : Class := { plain "java/lang/Iterable" (some 0) with
  accessFlags := 1537
  interfaces := #[]
  cf := some (fileOf pool22 8 #[] #[] 1537 35 #[] #[])
  fields := #[]
  methods := #[]
  instanceTypes := #[]
  staticTypes := #[]
  resolved := Array.replicate 62 none
  statics := none }

def pool23 : Array CpInfo := pool [(10, .class_ 12), (1, u "java/util/Collection"), (47, .class_ 61), (0, u "java/lang/Object"), (0, .class_ 63), (0, u "java/lang/Iterable")] 51

/-- java/util/Collection -/
def k23 : Class := { plain "java/util/Collection" (some 0) with
  accessFlags := 1537
  interfaces := #[22]
  cf := some (fileOf pool23 10 #[] #[] 1537 60 #[62] #[])
  fields := #[]
  methods := #[]
  instanceTypes := #[]
  staticTypes := #[]
  resolved := Array.replicate 115 none
  statics := none }

def pool24 : Array CpInfo := pool [(2, .class_ 4), (1, u "java/lang/Object"), (0, u "<init>"), (0, u "()V"), (1, .class_ 10), (1, u "java/util/AbstractCollection"), (66, .class_ 78), (0, u "java/util/Collection")] 81

def k24m0 : Method := { name := "<init>", desc := "()V", sig := { parameters := [], returnType := none }, accessFlags := 4, code := none }
/-- java/util/AbstractCollection -/
def k24 : Class := { plain "java/util/AbstractCollection" (some 0) with
  accessFlags := 1057
  interfaces := #[23]
  cf := some (fileOf pool24 8 #[] #[{ accessFlags := 4, nameIndex := 5, descriptorIndex := 6, attributes := #[] }] 1057 2 #[77] #[])
  fields := #[]
  methods := #[k24m0]
  instanceTypes := #[]
  staticTypes := #[]
  resolved := Array.replicate 160 none
  statics := none }

def pool25 : Array CpInfo := pool [(8, .class_ 10), (1, u "java/util/SequencedCollection"), (15, .class_ 27), (0, u "java/lang/Object"), (0, .class_ 29), (0, u "java/util/Collection")] 27

/-- java/util/SequencedCollection -/
def k25 : Class := { plain "java/util/SequencedCollection" (some 0) with
  accessFlags := 1537
  interfaces := #[23]
  cf := some (fileOf pool25 8 #[] #[] 1537 26 #[28] #[])
  fields := #[]
  methods := #[]
  instanceTypes := #[]
  staticTypes := #[]
  resolved := Array.replicate 57 none
  statics := none }

def pool26 : Array CpInfo := pool [(8, .class_ 10), (1, u "java/util/List"), (92, .class_ 104), (0, u "java/lang/Object"), (15, .class_ 121), (0, u "java/util/SequencedCollection")] 129

/-- java/util/List -/
def k26 : Class := { plain "java/util/List" (some 0) with
  accessFlags := 1537
  interfaces := #[25]
  cf := some (fileOf pool26 8 #[] #[] 1537 103 #[120] #[])
  fields := #[]
  methods := #[]
  instanceTypes := #[]
  staticTypes := #[]
  resolved := Array.replicate 251 none
  statics := none }

def pool27 : Array CpInfo := pool [(2, .class_ 4), (1, u "java/util/AbstractCollection"), (0, u "<init>"), (0, u "()V"), (1, .class_ 10), (1, u "java/util/AbstractList"), (0, u "modCount"), (0, u "I"), (64, .class_ 78), (0, u "java/util/AbstractList$Itr"), (3, .class_ 83), (0, u "java/util/AbstractList$ListItr"), (9, .class_ 94), (0, u "java/util/AbstractList$RandomAccessSubList"), (3, .class_ 99), (0, u "java/util/AbstractList$SubList"), (33, .class_ 134), (0, u "java/util/List"), (73, .class_ 209), (0, u "java/util/AbstractList$SubList$1"), (0, .class_ 211), (0, u "java/util/AbstractList$RandomAccessSpliterator")] 6

def k27m0 : Method := { name := "<init>", desc := "()V", sig := { parameters := [], returnType := none }, accessFlags := 4, code := none }
/-- java/util/AbstractList -/
def k27 : Class := { plain "java/util/AbstractList" (some 24) with
  accessFlags := 1057
  interfaces := #[26]
  cf := some (fileOf pool27 8 #[.nestMembers #[93, 98, 208, 210, 82, 77]] #[{ accessFlags := 4, nameIndex := 5, descriptorIndex := 6, attributes := #[] }] 1057 2 #[133] #[{ accessFlags := 132, nameIndex := 11, descriptorIndex := 12, attributes := #[] }])
  fields := #[{ name := "modCount", type := .int, accessFlags := 132, slot := 0, constantValue := 0 }]
  methods := #[k27m0]
  instanceTypes := #[.int]
  staticTypes := #[]
  resolved := Array.replicate 218 none
  statics := none }

def pool28 : Array CpInfo := pool [(1, .class_ 2), (0, u "java/util/RandomAccess"), (0, .class_ 4), (0, u "java/lang/Object")] 2

/-- java/util/RandomAccess -/
def k28 : Class := { plain "java/util/RandomAccess" (some 0) with
  accessFlags := 1537
  interfaces := #[]
  cf := some (fileOf pool28 1 #[] #[] 1537 3 #[] #[])
  fields := #[]
  methods := #[]
  instanceTypes := #[]
  staticTypes := #[]
  resolved := Array.replicate 7 none
  statics := none }

def pool29 : Array CpInfo := pool [(2, .class_ 4), (1, u "java/util/AbstractList"), (0, u "<init>"), (0, u "()V"), (1, .class_ 10), (1, u "java/util/Collections"), (54, .class_ 66), (0, u "java/util/Collections$EmptyList"), (0, .class_ 68), (0, u "java/util/RandomAccess"), (0, .class_ 70), (0, u "java/io/Serializable"), (0, u "serialVersionUID"), (0, u "J")] 77

def k29m0 : Method := { name := "<init>", desc := "()V", sig := { parameters := [], returnType := none }, accessFlags := 2, code := none }
/-- java/util/Collections$EmptyList -/
def k29 : Class := { plain "java/util/Collections$EmptyList" (some 27) with
  accessFlags := 32
  interfaces := #[28, 2]
  cf := some (fileOf pool29 65 #[.nestHost 8] #[{ accessFlags := 2, nameIndex := 5, descriptorIndex := 6, attributes := #[] }] 32 2 #[67, 69] #[{ accessFlags := 26, nameIndex := 71, descriptorIndex := 72, attributes := #[] }])
  fields := #[{ name := "serialVersionUID", type := .long, accessFlags := 26, slot := 0, constantValue := 0 }]
  methods := #[k29m0]
  instanceTypes := #[.int]
  staticTypes := #[.long]
  resolved := Array.replicate 150 none
  statics := none }

def pool30 : Array CpInfo := pool [(2, .class_ 4), (1, u "java/lang/StackTraceElement"), (0, u "<init>"), (2, .class_ 10), (1, u "java/lang/Object"), (0, u "()V"), (2, u "format"), (0, u "B"), (2, u "classLoaderName"), (0, u "Ljava/lang/String;"), (2, u "moduleName"), (2, u "moduleVersion"), (12, u "declaringClass"), (4, u "methodName"), (2, u "fileName"), (2, u "lineNumber"), (0, u "I"), (65, u "declaringClassObject"), (0, u "Ljava/lang/Class;"), (33, .class_ 153), (1, u "java/lang/StackTraceElement$HashedModules"), (17, .class_ 172), (0, u "java/io/Serializable"), (0, u "NATIVE_METHOD"), (1, u "UNKNOWN_SOURCE"), (2, u "BUILTIN_CLASS_LOADER"), (1, u "JDK_NON_UPGRADEABLE_MODULE"), (1, u "serialVersionUID"), (0, u "J")] 51

def k30m0 : Method := { name := "<init>", desc := "()V", sig := { parameters := [], returnType := none }, accessFlags := 2, code := none }
/-- java/lang/StackTraceElement -/
def k30 : Class := { plain "java/lang/StackTraceElement" (some 0) with
  accessFlags := 49
  interfaces := #[2]
  cf := some (fileOf pool30 2 #[.nestMembers #[151]] #[{ accessFlags := 2, nameIndex := 5, descriptorIndex := 11, attributes := #[] }] 49 8 #[171] #[{ accessFlags := 26, nameIndex := 173, descriptorIndex := 19, attributes := #[] }, { accessFlags := 26, nameIndex := 175, descriptorIndex := 19, attributes := #[] }, { accessFlags := 130, nameIndex := 116, descriptorIndex := 117, attributes := #[] }, { accessFlags := 2, nameIndex := 18, descriptorIndex := 19, attributes := #[] }, { accessFlags := 2, nameIndex := 22, descriptorIndex := 19, attributes := #[] }, { accessFlags := 2, nameIndex := 25, descriptorIndex := 19, attributes := #[] }, { accessFlags := 2, nameIndex := 38, descriptorIndex := 19, attributes := #[] }, { accessFlags := 2, nameIndex := 43, descriptorIndex := 19, attributes := #[] }, { accessFlags := 2, nameIndex := 46, descriptorIndex := 19, attributes := #[] }, { accessFlags := 2, nameIndex := 49, descriptorIndex := 50, attributes := #[] }, { accessFlags := 2, nameIndex := 14, descriptorIndex := 15, attributes := #[] }, { accessFlags := 26, nameIndex := 178, descriptorIndex := 15, attributes := #[] }, { accessFlags := 26, nameIndex := 180, descriptorIndex := 15, attributes := #[] }, { accessFlags := 26, nameIndex := 182, descriptorIndex := 183, attributes := #[] }])
  fields := #[{ name := "NATIVE_METHOD", type := (.object "java/lang/String"), accessFlags := 26, slot := 0, constantValue := 0 }, { name := "UNKNOWN_SOURCE", type := (.object "java/lang/String"), accessFlags := 26, slot := 1, constantValue := 0 }, { name := "declaringClassObject", type := (.object "java/lang/Class"), accessFlags := 130, slot := 0, constantValue := 0 }, { name := "classLoaderName", type := (.object "java/lang/String"), accessFlags := 2, slot := 1, constantValue := 0 }, { name := "moduleName", type := (.object "java/lang/String"), accessFlags := 2, slot := 2, constantValue := 0 }, { name := "moduleVersion", type := (.object "java/lang/String"), accessFlags := 2, slot := 3, constantValue := 0 }, { name := "declaringClass", type := (.object "java/lang/String"), accessFlags := 2, slot := 4, constantValue := 0 }, { name := "methodName", type := (.object "java/lang/String"), accessFlags := 2, slot := 5, constantValue := 0 }, { name := "fileName", type := (.object "java/lang/String"), accessFlags := 2, slot := 6, constantValue := 0 }, { name := "lineNumber", type := .int, accessFlags := 2, slot := 7, constantValue := 0 }, { name := "format", type := .byte, accessFlags := 2, slot := 8, constantValue := 0 }, { name := "BUILTIN_CLASS_LOADER", type := .byte, accessFlags := 26, slot := 2, constantValue := 0 }, { name := "JDK_NON_UPGRADEABLE_MODULE", type := .byte, accessFlags := 26, slot := 3, constantValue := 0 }, { name := "serialVersionUID", type := .long, accessFlags := 26, slot := 4, constantValue := 0 }]
  methods := #[k30m0]
  instanceTypes := #[(.object "java/lang/Class"), (.object "java/lang/String"), (.object "java/lang/String"), (.object "java/lang/String"), (.object "java/lang/String"), (.object "java/lang/String"), (.object "java/lang/String"), .int, .byte]
  staticTypes := #[(.object "java/lang/String"), (.object "java/lang/String"), .byte, .byte, .long]
  resolved := Array.replicate 235 none
  statics := none }

def pool31 : Array CpInfo := pool [(1, u "java/lang/Cloneable"), (0, .class_ 1), (0, u "java/lang/Object"), (0, .class_ 3)] 3

/-- java/lang/Cloneable -/
def k31 : Class := { plain "java/lang/Cloneable" (some 0) with
  accessFlags := 1537
  interfaces := #[]
  cf := some (fileOf pool31 2 #[] #[] 1537 4 #[] #[])
  fields := #[]
  methods := #[]
  instanceTypes := #[]
  staticTypes := #[]
  resolved := Array.replicate 8 none
  statics := none }

/-- the primitive byte -/
def k32 : Class := { plain "byte" none with kind := .primitive 'B', accessFlags := 0x411 }
/-- [B -/
def k33 : Class := { plain "[B" (some 0) with kind := .array 32 .byte, interfaces := #[31, 2], accessFlags := 1041 }

/-- the primitive char -/
def k34 : Class := { plain "char" none with kind := .primitive 'C', accessFlags := 0x411 }
/-- [C -/
def k35 : Class := { plain "[C" (some 0) with kind := .array 34 .char, interfaces := #[31, 2], accessFlags := 1041 }

/-- the primitive int -/
def k36 : Class := { plain "int" none with kind := .primitive 'I', accessFlags := 0x411 }
/-- [I -/
def k37 : Class := { plain "[I" (some 0) with kind := .array 36 .int, interfaces := #[31, 2], accessFlags := 1041 }

/-- [Ljava/lang/Object; -/
def k38 : Class := { plain "[Ljava/lang/Object;" (some 0) with kind := .array 0 (.object "java/lang/Object"), interfaces := #[31, 2], accessFlags := 1041 }

/-- [Ljava/lang/StackTraceElement; -/
def k39 : Class := { plain "[Ljava/lang/StackTraceElement;" (some 0) with kind := .array 30 (.object "java/lang/StackTraceElement"), interfaces := #[31, 2], accessFlags := 1041 }

/-- [Ljava/lang/Throwable; -/
def k40 : Class := { plain "[Ljava/lang/Throwable;" (some 0) with kind := .array 9 (.object "java/lang/Throwable"), interfaces := #[31, 2], accessFlags := 1041 }

def heap : Heap := #[{ cls := 7, slots := #[.long 0, .int 1, .null, .int 0, .null, .int 0, .int 0], vm := .statics 7 },
  { cls := 9, slots := #[.long 0, .ref 4, .ref 5, .null, .null, .null, .null, .ref 6, .int 1], vm := .statics 9 },
  { cls := 20, slots := #[.null, .null, .null], vm := .statics 20 },
  { cls := 21, slots := #[.int 0, .int 0, .int 0, .int 0, .int 0, .int 0, .int 0, .int 0, .null, .null, .ref 5, .null], vm := .statics 21 },
  { cls := 39, slots := #[], vm := .none },
  { cls := 29, slots := #[.int 0], vm := .none },
  { cls := 40, slots := #[], vm := .none }]
def classes : Array Class := #[k0, k1, k2, k3, k4, k5, k6, k7, k8, k9, k10, k11, k12, k13, k14, k15, k16, k17, k18, k19, k20, k21, k22, k23, k24, k25, k26, k27, k28, k29, k30, k31, k32, k33, k34, k35, k36, k37, k38, k39, k40]
def interned : List (Array UInt16 × Addr) := []
def slotsUsed : Nat := 32
def theMethod : MethodId := ⟨1, 1⟩
def args0 : Array Value := #[.int 5, .int 6]
def aboutOver (below : List Frame) : State where
  vm := { classes := classes, interned := interned.toArray }
  heap := heap
  slotsUsed := slotsUsed
  threads := #[{ frames := .invoking theMethod args0 :: below }]
def below0 : List Frame := [.native { method := ⟨0, 0⟩, args := #[] }]
def about1 : State := aboutOver below0
def p0 : Program := .bare "" "" ""
def e0 : Env := launch0.env 0 0 0
theorem w_frames : about1.frames = Frame.invoking theMethod args0 :: below0 := rfl
set_option maxRecDepth 65536 in
theorem w_args : argsFit about1.vm theMethod args0 = true := by decide +kernel
set_option maxRecDepth 65536 in
theorem w_heap : heapFits about1 = true := by decide +kernel
set_option maxRecDepth 65536 in
theorem w_runnable : about1.curStatus? = some .runnable := by decide +kernel
set_option maxRecDepth 65536 in
theorem w_alone : about1.alone = true := by decide +kernel
set_option maxRecDepth 65536 in
theorem w_named : about1.methodNamed? x = some theMethod := by decide +kernel
set_option maxRecDepth 65536 in
theorem w_hears : about1.hears theMethod below0 = true := by decide +kernel
set_option maxRecDepth 65536 in
theorem w_ripe : about1.ripe theMethod args0 below0 = true := by decide +kernel
theorem w_running : about1.status = .running := rfl
set_option maxRecDepth 65536 in
theorem w_room : about1.hasRoom e0.platform room_1 = true :=
  launch0.hasRoom_least _ room_1 (by decide +kernel) (by decide +kernel) (by decide +kernel) (by decide +kernel) (by decide +kernel) (by decide +kernel)
theorem allAtoms_all (ts : List Jvm.Cond) (a : Array Jvm.Value) (st : Jvm.State) : (allAtoms ts).before a st = ts.all (fun c => c.before a st) := by
  induction ts with
  | nil => rfl
  | cons c t ih =>
    show (Jvm.Cond.and c (allAtoms t)).before a st = _
    rw [Jvm.Cond.before_and, ih, List.all_cons]
def words1 : List Jvm.Cond := Jvm.Cond.code x code maxLocals ret :: tables_1
/-- a 'code' word, met by the world's own term for the bytes: nothing is compared byte by byte -/
theorem code_word {y : MethodName} {bytes : ByteArray} {mx : Nat} {rt : Option FieldType} {a : Array Value} {s : State} {m : MethodId} {meth : Method} {c : Code} (h1 : s.methodNamed? y = some m) (h2 : s.vm.method? m = some meth) (h3 : meth.code = some c) (h4 : c.code = bytes)
    (h5 : (c.maxLocals == mx && c.exceptionTable.isEmpty && decide (c.maxStack ≤ mostOperands) && decide (meth.sig.returnType = rt) && !meth.locks && decide (parseMethodDescriptor y.desc = some meth.sig)) = true) : (Jvm.Cond.code y bytes mx rt).before a s = true := by
  simp only [Bool.and_eq_true, beq_iff_eq, Bool.not_eq_true', decide_eq_true_eq] at h5
  obtain ⟨⟨⟨⟨⟨g1, g2⟩, g3⟩, g4⟩, g5⟩, g6⟩ := h5
  simp [Cond.before, Cond.holds, Cond.value, h1, h2, h3, h4, g1, g2, g3, g4, g5, g6]
def isCode : Jvm.Cond → Bool
  | .code _ _ _ _ => true
  | _ => false
theorem all_split {L : List Jvm.Cond} {P : Jvm.Cond → Bool} (h1 : L.all (fun c => isCode c || P c) = true) (h2 : ∀ c ∈ L.filter isCode, P c = true) : L.all P = true := by
  refine List.all_eq_true.mpr fun c hc => ?_
  have h := List.all_eq_true.mp h1 c hc
  rcases Bool.eq_false_or_eq_true (isCode c) with hi | hi
  · exact h2 c (List.mem_filter.mpr ⟨hc, hi⟩)
  · simpa [hi] using h
set_option maxRecDepth 65536 in
theorem w_c0 : (Jvm.Cond.code x code maxLocals ret).before args0 about1 = true := code_word (m := ⟨1, 1⟩) (meth := k1m1) (c := k1c1) (by decide +kernel) rfl rfl rfl (by decide +kernel)
set_option maxRecDepth 65536 in
theorem w_c1 : (Jvm.Cond.code ({ cls := "java/lang/String", name := "<init>", desc := "([C)V" } : Jvm.MethodName) jdk_42_method_3_code (2 : Nat) (Option.none : Option Jvm.ClassFile.FieldType)).before args0 about1 = true := code_word (m := ⟨7, 1⟩) (meth := k7m1) (c := k7c1) (by decide +kernel) rfl rfl rfl (by decide +kernel)
set_option maxRecDepth 65536 in
theorem w_c2 : (Jvm.Cond.code ({ cls := "java/lang/String", name := "<init>", desc := "([CIILjava/lang/Void;)V" } : Jvm.MethodName) jdk_42_method_149_code (6 : Nat) (Option.none : Option Jvm.ClassFile.FieldType)).before args0 about1 = true := code_word (m := ⟨7, 6⟩) (meth := k7m6) (c := k7c6) (by decide +kernel) rfl rfl rfl (by decide +kernel)
set_option maxRecDepth 65536 in
theorem w_c3 : (Jvm.Cond.code ({ cls := "java/lang/Object", name := "<init>", desc := "()V" } : Jvm.MethodName) object_method_1_code (1 : Nat) (Option.none : Option Jvm.ClassFile.FieldType)).before args0 about1 = true := code_word (m := ⟨0, 0⟩) (meth := k0m0) (c := k0c0) (by decide +kernel) rfl rfl rfl (by decide +kernel)
set_option maxRecDepth 65536 in
theorem w_c4 : (Jvm.Cond.code ({ cls := "java/lang/StringUTF16", name := "compress", desc := "([CII)[B" } : Jvm.MethodName) jdk_52_method_16_code (6 : Nat) (Option.some (Jvm.ClassFile.FieldType.array Jvm.ClassFile.FieldType.byte))).before args0 about1 = true := code_word (m := ⟨8, 2⟩) (meth := k8m2) (c := k8c2) (by decide +kernel) rfl rfl rfl (by decide +kernel)
set_option maxRecDepth 65536 in
theorem w_c5 : (Jvm.Cond.code ({ cls := "java/lang/StringUTF16", name := "compress", desc := "([CI[BII)I" } : Jvm.MethodName) jdk_52_method_21_code (7 : Nat) (Option.some Jvm.ClassFile.FieldType.int)).before args0 about1 = true := code_word (m := ⟨8, 3⟩) (meth := k8m3) (c := k8c3) (by decide +kernel) rfl rfl rfl (by decide +kernel)
set_option maxRecDepth 65536 in
theorem w_c6 : (Jvm.Cond.code ({ cls := "java/lang/StringUTF16", name := "coderFromArrayLen", desc := "([BI)B" } : Jvm.MethodName) jdk_52_method_15_code (2 : Nat) (Option.some Jvm.ClassFile.FieldType.byte)).before args0 about1 = true := code_word (m := ⟨8, 1⟩) (meth := k8m1) (c := k8c1) (by decide +kernel) rfl rfl rfl (by decide +kernel)
set_option maxRecDepth 65536 in
theorem w_c7 : (Jvm.Cond.code ({ cls := "com/example/titelfeld/titelfeld/command/CommandFailure", name := "readingStopped", desc := "(Ljava/lang/String;Ljava/lang/String;)Lcom/example/titelfeld/titelfeld/command/CommandFailure;" } : Jvm.MethodName) prog_3_method_5_code (2 : Nat) (Option.some (Jvm.ClassFile.FieldType.object "com/example/titelfeld/titelfeld/command/CommandFailure"))).before args0 about1 = true := code_word (m := ⟨11, 1⟩) (meth := k11m1) (c := k11c1) (by decide +kernel) rfl rfl rfl (by decide +kernel)
set_option maxRecDepth 65536 in
theorem w_c8 : (Jvm.Cond.code ({ cls := "java/lang/StringBuilder", name := "<init>", desc := "()V" } : Jvm.MethodName) jdk_67_method_1_code (1 : Nat) (Option.none : Option Jvm.ClassFile.FieldType)).before args0 about1 = true := code_word (m := ⟨14, 0⟩) (meth := k14m0) (c := k14c0) (by decide +kernel) rfl rfl rfl (by decide +kernel)
set_option maxRecDepth 65536 in
theorem w_c9 : (Jvm.Cond.code ({ cls := "java/lang/AbstractStringBuilder", name := "<init>", desc := "(I)V" } : Jvm.MethodName) jdk_68_method_2_code (2 : Nat) (Option.none : Option Jvm.ClassFile.FieldType)).before args0 about1 = true := code_word (m := ⟨13, 1⟩) (meth := k13m1) (c := k13c1) (by decide +kernel) rfl rfl rfl (by decide +kernel)
set_option maxRecDepth 65536 in
theorem w_c10 : (Jvm.Cond.code ({ cls := "java/lang/StringBuilder", name := "append", desc := "(Ljava/lang/String;)Ljava/lang/StringBuilder;" } : Jvm.MethodName) jdk_67_method_7_code (2 : Nat) (Option.some (Jvm.ClassFile.FieldType.object "java/lang/StringBuilder"))).before args0 about1 = true := code_word (m := ⟨14, 1⟩) (meth := k14m1) (c := k14c1) (by decide +kernel) rfl rfl rfl (by decide +kernel)
set_option maxRecDepth 65536 in
theorem w_c11 : (Jvm.Cond.code ({ cls := "java/lang/AbstractStringBuilder", name := "append", desc := "(Ljava/lang/String;)Ljava/lang/AbstractStringBuilder;" } : Jvm.MethodName) jdk_68_method_22_code (3 : Nat) (Option.some (Jvm.ClassFile.FieldType.object "java/lang/AbstractStringBuilder"))).before args0 about1 = true := code_word (m := ⟨13, 5⟩) (meth := k13m5) (c := k13c5) (by decide +kernel) rfl rfl rfl (by decide +kernel)
set_option maxRecDepth 65536 in
theorem w_c12 : (Jvm.Cond.code ({ cls := "java/lang/String", name := "length", desc := "()I" } : Jvm.MethodName) jdk_42_method_54_code (1 : Nat) (Option.some Jvm.ClassFile.FieldType.int)).before args0 about1 = true := code_word (m := ⟨7, 3⟩) (meth := k7m3) (c := k7c3) (by decide +kernel) rfl rfl rfl (by decide +kernel)
set_option maxRecDepth 65536 in
theorem w_c13 : (Jvm.Cond.code ({ cls := "java/lang/String", name := "coder", desc := "()B" } : Jvm.MethodName) jdk_42_method_152_code (1 : Nat) (Option.some Jvm.ClassFile.FieldType.byte)).before args0 about1 = true := code_word (m := ⟨7, 8⟩) (meth := k7m8) (c := k7c8) (by decide +kernel) rfl rfl rfl (by decide +kernel)
set_option maxRecDepth 65536 in
theorem w_c14 : (Jvm.Cond.code ({ cls := "java/lang/AbstractStringBuilder", name := "ensureCapacityInternal", desc := "(I)V" } : Jvm.MethodName) jdk_68_method_9_code (3 : Nat) (Option.none : Option Jvm.ClassFile.FieldType)).before args0 about1 = true := code_word (m := ⟨13, 3⟩) (meth := k13m3) (c := k13c3) (by decide +kernel) rfl rfl rfl (by decide +kernel)
set_option maxRecDepth 65536 in
theorem w_c15 : (Jvm.Cond.code ({ cls := "java/lang/AbstractStringBuilder", name := "putStringAt", desc := "(ILjava/lang/String;)V" } : Jvm.MethodName) jdk_68_method_73_code (3 : Nat) (Option.none : Option Jvm.ClassFile.FieldType)).before args0 about1 = true := code_word (m := ⟨13, 9⟩) (meth := k13m9) (c := k13c9) (by decide +kernel) rfl rfl rfl (by decide +kernel)
set_option maxRecDepth 65536 in
theorem w_c16 : (Jvm.Cond.code ({ cls := "java/lang/AbstractStringBuilder", name := "inflateIfNeededFor", desc := "(Ljava/lang/String;)V" } : Jvm.MethodName) jdk_68_method_71_code (2 : Nat) (Option.none : Option Jvm.ClassFile.FieldType)).before args0 about1 = true := code_word (m := ⟨13, 8⟩) (meth := k13m8) (c := k13c8) (by decide +kernel) rfl rfl rfl (by decide +kernel)
set_option maxRecDepth 65536 in
theorem w_c17 : (Jvm.Cond.code ({ cls := "java/lang/String", name := "getBytes", desc := "([BIB)V" } : Jvm.MethodName) jdk_42_method_147_code (4 : Nat) (Option.none : Option Jvm.ClassFile.FieldType)).before args0 about1 = true := code_word (m := ⟨7, 5⟩) (meth := k7m5) (c := k7c5) (by decide +kernel) rfl rfl rfl (by decide +kernel)
set_option maxRecDepth 65536 in
theorem w_c18 : (Jvm.Cond.code ({ cls := "java/lang/AbstractStringBuilder", name := "newCapacity", desc := "(I)I" } : Jvm.MethodName) jdk_68_method_10_code (6 : Nat) (Option.some Jvm.ClassFile.FieldType.int)).before args0 about1 = true := code_word (m := ⟨13, 4⟩) (meth := k13m4) (c := k13c4) (by decide +kernel) rfl rfl rfl (by decide +kernel)
set_option maxRecDepth 65536 in
theorem w_c19 : (Jvm.Cond.code ({ cls := "jdk/internal/util/ArraysSupport", name := "newLength", desc := "(III)I" } : Jvm.MethodName) jdk_48_method_27_code (4 : Nat) (Option.some Jvm.ClassFile.FieldType.int)).before args0 about1 = true := code_word (m := ⟨16, 1⟩) (meth := k16m1) (c := k16c1) (by decide +kernel) rfl rfl rfl (by decide +kernel)
set_option maxRecDepth 65536 in
theorem w_c20 : (Jvm.Cond.code ({ cls := "java/lang/Math", name := "max", desc := "(II)I" } : Jvm.MethodName) jdk_29_method_65_code (2 : Nat) (Option.some Jvm.ClassFile.FieldType.int)).before args0 about1 = true := code_word (m := ⟨17, 1⟩) (meth := k17m1) (c := k17c1) (by decide +kernel) rfl rfl rfl (by decide +kernel)
set_option maxRecDepth 65536 in
theorem w_c21 : (Jvm.Cond.code ({ cls := "java/util/Arrays", name := "copyOf", desc := "([BI)[B" } : Jvm.MethodName) jdk_65_method_121_code (3 : Nat) (Option.some (Jvm.ClassFile.FieldType.array Jvm.ClassFile.FieldType.byte))).before args0 about1 = true := code_word (m := ⟨18, 1⟩) (meth := k18m1) (c := k18c1) (by decide +kernel) rfl rfl rfl (by decide +kernel)
set_option maxRecDepth 65536 in
theorem w_c22 : (Jvm.Cond.code ({ cls := "java/lang/Math", name := "min", desc := "(II)I" } : Jvm.MethodName) jdk_29_method_69_code (2 : Nat) (Option.some Jvm.ClassFile.FieldType.int)).before args0 about1 = true := code_word (m := ⟨17, 2⟩) (meth := k17m2) (c := k17c2) (by decide +kernel) rfl rfl rfl (by decide +kernel)
set_option maxRecDepth 65536 in
theorem w_c23 : (Jvm.Cond.code ({ cls := "java/lang/StringBuilder", name := "toString", desc := "()Ljava/lang/String;" } : Jvm.MethodName) jdk_67_method_42_code (1 : Nat) (Option.some (Jvm.ClassFile.FieldType.object "java/lang/String"))).before args0 about1 = true := code_word (m := ⟨14, 2⟩) (meth := k14m2) (c := k14c2) (by decide +kernel) rfl rfl rfl (by decide +kernel)
set_option maxRecDepth 65536 in
theorem w_c24 : (Jvm.Cond.code ({ cls := "java/lang/String", name := "<init>", desc := "(Ljava/lang/StringBuilder;)V" } : Jvm.MethodName) jdk_42_method_53_code (2 : Nat) (Option.none : Option Jvm.ClassFile.FieldType)).before args0 about1 = true := code_word (m := ⟨7, 2⟩) (meth := k7m2) (c := k7c2) (by decide +kernel) rfl rfl rfl (by decide +kernel)
set_option maxRecDepth 65536 in
theorem w_c25 : (Jvm.Cond.code ({ cls := "java/lang/String", name := "<init>", desc := "(Ljava/lang/AbstractStringBuilder;Ljava/lang/Void;)V" } : Jvm.MethodName) jdk_42_method_150_code (5 : Nat) (Option.none : Option Jvm.ClassFile.FieldType)).before args0 about1 = true := code_word (m := ⟨7, 7⟩) (meth := k7m7) (c := k7c7) (by decide +kernel) rfl rfl rfl (by decide +kernel)
set_option maxRecDepth 65536 in
theorem w_c26 : (Jvm.Cond.code ({ cls := "java/lang/AbstractStringBuilder", name := "getValue", desc := "()[B" } : Jvm.MethodName) jdk_68_method_64_code (1 : Nat) (Option.some (Jvm.ClassFile.FieldType.array Jvm.ClassFile.FieldType.byte))).before args0 about1 = true := code_word (m := ⟨13, 6⟩) (meth := k13m6) (c := k13c6) (by decide +kernel) rfl rfl rfl (by decide +kernel)
set_option maxRecDepth 65536 in
theorem w_c27 : (Jvm.Cond.code ({ cls := "java/lang/StringBuilder", name := "length", desc := "()I" } : Jvm.MethodName) jdk_67_method_93_code (1 : Nat) (Option.some Jvm.ClassFile.FieldType.int)).before args0 about1 = true := code_word (m := ⟨14, 3⟩) (meth := k14m3) (c := k14c3) (by decide +kernel) rfl rfl rfl (by decide +kernel)
set_option maxRecDepth 65536 in
theorem w_c28 : (Jvm.Cond.code ({ cls := "java/lang/AbstractStringBuilder", name := "length", desc := "()I" } : Jvm.MethodName) jdk_68_method_6_code (1 : Nat) (Option.some Jvm.ClassFile.FieldType.int)).before args0 about1 = true := code_word (m := ⟨13, 2⟩) (meth := k13m2) (c := k13c2) (by decide +kernel) rfl rfl rfl (by decide +kernel)
set_option maxRecDepth 65536 in
theorem w_c29 : (Jvm.Cond.code ({ cls := "java/lang/AbstractStringBuilder", name := "isLatin1", desc := "()Z" } : Jvm.MethodName) jdk_68_method_68_code (1 : Nat) (Option.some Jvm.ClassFile.FieldType.boolean)).before args0 about1 = true := code_word (m := ⟨13, 7⟩) (meth := k13m7) (c := k13c7) (by decide +kernel) rfl rfl rfl (by decide +kernel)
set_option maxRecDepth 65536 in
theorem w_c30 : (Jvm.Cond.code ({ cls := "java/util/Arrays", name := "copyOfRange", desc := "([BII)[B" } : Jvm.MethodName) jdk_65_method_132_code (3 : Nat) (Option.some (Jvm.ClassFile.FieldType.array Jvm.ClassFile.FieldType.byte))).before args0 about1 = true := code_word (m := ⟨18, 3⟩) (meth := k18m3) (c := k18c3) (by decide +kernel) rfl rfl rfl (by decide +kernel)
set_option maxRecDepth 65536 in
theorem w_c31 : (Jvm.Cond.code ({ cls := "java/util/Arrays", name := "copyOfRangeByte", desc := "([BII)[B" } : Jvm.MethodName) jdk_65_method_133_code (5 : Nat) (Option.some (Jvm.ClassFile.FieldType.array Jvm.ClassFile.FieldType.byte))).before args0 about1 = true := code_word (m := ⟨18, 4⟩) (meth := k18m4) (c := k18c4) (by decide +kernel) rfl rfl rfl (by decide +kernel)
set_option maxRecDepth 65536 in
theorem w_c32 : (Jvm.Cond.code ({ cls := "java/util/Arrays", name := "checkLength", desc := "(II)V" } : Jvm.MethodName) jdk_65_method_131_code (2 : Nat) (Option.none : Option Jvm.ClassFile.FieldType)).before args0 about1 = true := code_word (m := ⟨18, 2⟩) (meth := k18m2) (c := k18c2) (by decide +kernel) rfl rfl rfl (by decide +kernel)
set_option maxRecDepth 65536 in
theorem w_c33 : (Jvm.Cond.code ({ cls := "com/example/titelfeld/titelfeld/command/CommandFailure", name := "<init>", desc := "(Ljava/lang/String;Z)V" } : Jvm.MethodName) prog_3_method_2_code (3 : Nat) (Option.none : Option Jvm.ClassFile.FieldType)).before args0 about1 = true := code_word (m := ⟨11, 0⟩) (meth := k11m0) (c := k11c0) (by decide +kernel) rfl rfl rfl (by decide +kernel)
set_option maxRecDepth 65536 in
theorem w_c34 : (Jvm.Cond.code ({ cls := "java/lang/Exception", name := "<init>", desc := "(Ljava/lang/String;)V" } : Jvm.MethodName) jdk_59_method_2_code (2 : Nat) (Option.none : Option Jvm.ClassFile.FieldType)).before args0 about1 = true := code_word (m := ⟨10, 1⟩) (meth := k10m1) (c := k10c1) (by decide +kernel) rfl rfl rfl (by decide +kernel)
set_option maxRecDepth 65536 in
theorem w_c35 : (Jvm.Cond.code ({ cls := "java/lang/Throwable", name := "<init>", desc := "(Ljava/lang/String;)V" } : Jvm.MethodName) jdk_78_method_2_code (2 : Nat) (Option.none : Option Jvm.ClassFile.FieldType)).before args0 about1 = true := code_word (m := ⟨9, 1⟩) (meth := k9m1) (c := k9c1) (by decide +kernel) rfl rfl rfl (by decide +kernel)
set_option maxRecDepth 65536 in
theorem w_c36 : (Jvm.Cond.code ({ cls := "java/lang/Throwable", name := "<init>", desc := "()V" } : Jvm.MethodName) jdk_78_method_1_code (1 : Nat) (Option.none : Option Jvm.ClassFile.FieldType)).before args0 about1 = true := code_word (m := ⟨9, 0⟩) (meth := k9m0) (c := k9c0) (by decide +kernel) rfl rfl rfl (by decide +kernel)
set_option maxRecDepth 65536 in
theorem w_c37 : (Jvm.Cond.code ({ cls := "java/lang/Throwable", name := "getMessage", desc := "()Ljava/lang/String;" } : Jvm.MethodName) jdk_78_method_6_code (1 : Nat) (Option.some (Jvm.ClassFile.FieldType.object "java/lang/String"))).before args0 about1 = true := code_word (m := ⟨9, 2⟩) (meth := k9m2) (c := k9c2) (by decide +kernel) rfl rfl rfl (by decide +kernel)
set_option maxRecDepth 65536 in
theorem w_c38 : (Jvm.Cond.code ({ cls := "java/lang/String", name := "equals", desc := "(Ljava/lang/Object;)Z" } : Jvm.MethodName) jdk_42_method_66_code (3 : Nat) (Option.some Jvm.ClassFile.FieldType.boolean)).before args0 about1 = true := code_word (m := ⟨7, 4⟩) (meth := k7m4) (c := k7c4) (by decide +kernel) rfl rfl rfl (by decide +kernel)
set_option maxRecDepth 65536 in
theorem w_c39 : (Jvm.Cond.code ({ cls := "java/lang/StringLatin1", name := "equals", desc := "([B[B)Z" } : Jvm.MethodName) jdk_43_method_13_code (3 : Nat) (Option.some Jvm.ClassFile.FieldType.boolean)).before args0 about1 = true := code_word (m := ⟨19, 1⟩) (meth := k19m1) (c := k19c1) (by decide +kernel) rfl rfl rfl (by decide +kernel)
set_option maxRecDepth 65536 in
theorem w_c40 : (Jvm.Cond.code ({ cls := "com/example/titelfeld/titelfeld/command/CommandFailure", name := "reported", desc := "()Z" } : Jvm.MethodName) prog_3_method_8_code (1 : Nat) (Option.some Jvm.ClassFile.FieldType.boolean)).before args0 about1 = true := code_word (m := ⟨11, 2⟩) (meth := k11m2) (c := k11c2) (by decide +kernel) rfl rfl rfl (by decide +kernel)
def codes1 : List Jvm.Cond := [Jvm.Cond.code x code maxLocals ret, Jvm.Cond.code ({ cls := "java/lang/String", name := "<init>", desc := "([C)V" } : Jvm.MethodName) jdk_42_method_3_code (2 : Nat) (Option.none : Option Jvm.ClassFile.FieldType), Jvm.Cond.code ({ cls := "java/lang/String", name := "<init>", desc := "([CIILjava/lang/Void;)V" } : Jvm.MethodName) jdk_42_method_149_code (6 : Nat) (Option.none : Option Jvm.ClassFile.FieldType), Jvm.Cond.code ({ cls := "java/lang/Object", name := "<init>", desc := "()V" } : Jvm.MethodName) object_method_1_code (1 : Nat) (Option.none : Option Jvm.ClassFile.FieldType), Jvm.Cond.code ({ cls := "java/lang/StringUTF16", name := "compress", desc := "([CII)[B" } : Jvm.MethodName) jdk_52_method_16_code (6 : Nat) (Option.some (Jvm.ClassFile.FieldType.array Jvm.ClassFile.FieldType.byte)), Jvm.Cond.code ({ cls := "java/lang/StringUTF16", name := "compress", desc := "([CI[BII)I" } : Jvm.MethodName) jdk_52_method_21_code (7 : Nat) (Option.some Jvm.ClassFile.FieldType.int), Jvm.Cond.code ({ cls := "java/lang/StringUTF16", name := "coderFromArrayLen", desc := "([BI)B" } : Jvm.MethodName) jdk_52_method_15_code (2 : Nat) (Option.some Jvm.ClassFile.FieldType.byte), Jvm.Cond.code ({ cls := "com/example/titelfeld/titelfeld/command/CommandFailure", name := "readingStopped", desc := "(Ljava/lang/String;Ljava/lang/String;)Lcom/example/titelfeld/titelfeld/command/CommandFailure;" } : Jvm.MethodName) prog_3_method_5_code (2 : Nat) (Option.some (Jvm.ClassFile.FieldType.object "com/example/titelfeld/titelfeld/command/CommandFailure")), Jvm.Cond.code ({ cls := "java/lang/StringBuilder", name := "<init>", desc := "()V" } : Jvm.MethodName) jdk_67_method_1_code (1 : Nat) (Option.none : Option Jvm.ClassFile.FieldType), Jvm.Cond.code ({ cls := "java/lang/AbstractStringBuilder", name := "<init>", desc := "(I)V" } : Jvm.MethodName) jdk_68_method_2_code (2 : Nat) (Option.none : Option Jvm.ClassFile.FieldType), Jvm.Cond.code ({ cls := "java/lang/StringBuilder", name := "append", desc := "(Ljava/lang/String;)Ljava/lang/StringBuilder;" } : Jvm.MethodName) jdk_67_method_7_code (2 : Nat) (Option.some (Jvm.ClassFile.FieldType.object "java/lang/StringBuilder")), Jvm.Cond.code ({ cls := "java/lang/AbstractStringBuilder", name := "append", desc := "(Ljava/lang/String;)Ljava/lang/AbstractStringBuilder;" } : Jvm.MethodName) jdk_68_method_22_code (3 : Nat) (Option.some (Jvm.ClassFile.FieldType.object "java/lang/AbstractStringBuilder")), Jvm.Cond.code ({ cls := "java/lang/String", name := "length", desc := "()I" } : Jvm.MethodName) jdk_42_method_54_code (1 : Nat) (Option.some Jvm.ClassFile.FieldType.int), Jvm.Cond.code ({ cls := "java/lang/String", name := "coder", desc := "()B" } : Jvm.MethodName) jdk_42_method_152_code (1 : Nat) (Option.some Jvm.ClassFile.FieldType.byte), Jvm.Cond.code ({ cls := "java/lang/AbstractStringBuilder", name := "ensureCapacityInternal", desc := "(I)V" } : Jvm.MethodName) jdk_68_method_9_code (3 : Nat) (Option.none : Option Jvm.ClassFile.FieldType), Jvm.Cond.code ({ cls := "java/lang/AbstractStringBuilder", name := "putStringAt", desc := "(ILjava/lang/String;)V" } : Jvm.MethodName) jdk_68_method_73_code (3 : Nat) (Option.none : Option Jvm.ClassFile.FieldType), Jvm.Cond.code ({ cls := "java/lang/AbstractStringBuilder", name := "inflateIfNeededFor", desc := "(Ljava/lang/String;)V" } : Jvm.MethodName) jdk_68_method_71_code (2 : Nat) (Option.none : Option Jvm.ClassFile.FieldType), Jvm.Cond.code ({ cls := "java/lang/String", name := "getBytes", desc := "([BIB)V" } : Jvm.MethodName) jdk_42_method_147_code (4 : Nat) (Option.none : Option Jvm.ClassFile.FieldType), Jvm.Cond.code ({ cls := "java/lang/AbstractStringBuilder", name := "newCapacity", desc := "(I)I" } : Jvm.MethodName) jdk_68_method_10_code (6 : Nat) (Option.some Jvm.ClassFile.FieldType.int), Jvm.Cond.code ({ cls := "jdk/internal/util/ArraysSupport", name := "newLength", desc := "(III)I" } : Jvm.MethodName) jdk_48_method_27_code (4 : Nat) (Option.some Jvm.ClassFile.FieldType.int), Jvm.Cond.code ({ cls := "java/lang/Math", name := "max", desc := "(II)I" } : Jvm.MethodName) jdk_29_method_65_code (2 : Nat) (Option.some Jvm.ClassFile.FieldType.int), Jvm.Cond.code ({ cls := "java/util/Arrays", name := "copyOf", desc := "([BI)[B" } : Jvm.MethodName) jdk_65_method_121_code (3 : Nat) (Option.some (Jvm.ClassFile.FieldType.array Jvm.ClassFile.FieldType.byte)), Jvm.Cond.code ({ cls := "java/lang/Math", name := "min", desc := "(II)I" } : Jvm.MethodName) jdk_29_method_69_code (2 : Nat) (Option.some Jvm.ClassFile.FieldType.int), Jvm.Cond.code ({ cls := "java/lang/StringBuilder", name := "toString", desc := "()Ljava/lang/String;" } : Jvm.MethodName) jdk_67_method_42_code (1 : Nat) (Option.some (Jvm.ClassFile.FieldType.object "java/lang/String")), Jvm.Cond.code ({ cls := "java/lang/String", name := "<init>", desc := "(Ljava/lang/StringBuilder;)V" } : Jvm.MethodName) jdk_42_method_53_code (2 : Nat) (Option.none : Option Jvm.ClassFile.FieldType), Jvm.Cond.code ({ cls := "java/lang/String", name := "<init>", desc := "(Ljava/lang/AbstractStringBuilder;Ljava/lang/Void;)V" } : Jvm.MethodName) jdk_42_method_150_code (5 : Nat) (Option.none : Option Jvm.ClassFile.FieldType), Jvm.Cond.code ({ cls := "java/lang/AbstractStringBuilder", name := "getValue", desc := "()[B" } : Jvm.MethodName) jdk_68_method_64_code (1 : Nat) (Option.some (Jvm.ClassFile.FieldType.array Jvm.ClassFile.FieldType.byte)), Jvm.Cond.code ({ cls := "java/lang/StringBuilder", name := "length", desc := "()I" } : Jvm.MethodName) jdk_67_method_93_code (1 : Nat) (Option.some Jvm.ClassFile.FieldType.int), Jvm.Cond.code ({ cls := "java/lang/AbstractStringBuilder", name := "length", desc := "()I" } : Jvm.MethodName) jdk_68_method_6_code (1 : Nat) (Option.some Jvm.ClassFile.FieldType.int), Jvm.Cond.code ({ cls := "java/lang/AbstractStringBuilder", name := "isLatin1", desc := "()Z" } : Jvm.MethodName) jdk_68_method_68_code (1 : Nat) (Option.some Jvm.ClassFile.FieldType.boolean), Jvm.Cond.code ({ cls := "java/util/Arrays", name := "copyOfRange", desc := "([BII)[B" } : Jvm.MethodName) jdk_65_method_132_code (3 : Nat) (Option.some (Jvm.ClassFile.FieldType.array Jvm.ClassFile.FieldType.byte)), Jvm.Cond.code ({ cls := "java/util/Arrays", name := "copyOfRangeByte", desc := "([BII)[B" } : Jvm.MethodName) jdk_65_method_133_code (5 : Nat) (Option.some (Jvm.ClassFile.FieldType.array Jvm.ClassFile.FieldType.byte)), Jvm.Cond.code ({ cls := "java/util/Arrays", name := "checkLength", desc := "(II)V" } : Jvm.MethodName) jdk_65_method_131_code (2 : Nat) (Option.none : Option Jvm.ClassFile.FieldType), Jvm.Cond.code ({ cls := "com/example/titelfeld/titelfeld/command/CommandFailure", name := "<init>", desc := "(Ljava/lang/String;Z)V" } : Jvm.MethodName) prog_3_method_2_code (3 : Nat) (Option.none : Option Jvm.ClassFile.FieldType), Jvm.Cond.code ({ cls := "java/lang/Exception", name := "<init>", desc := "(Ljava/lang/String;)V" } : Jvm.MethodName) jdk_59_method_2_code (2 : Nat) (Option.none : Option Jvm.ClassFile.FieldType), Jvm.Cond.code ({ cls := "java/lang/Throwable", name := "<init>", desc := "(Ljava/lang/String;)V" } : Jvm.MethodName) jdk_78_method_2_code (2 : Nat) (Option.none : Option Jvm.ClassFile.FieldType), Jvm.Cond.code ({ cls := "java/lang/Throwable", name := "<init>", desc := "()V" } : Jvm.MethodName) jdk_78_method_1_code (1 : Nat) (Option.none : Option Jvm.ClassFile.FieldType), Jvm.Cond.code ({ cls := "java/lang/Throwable", name := "getMessage", desc := "()Ljava/lang/String;" } : Jvm.MethodName) jdk_78_method_6_code (1 : Nat) (Option.some (Jvm.ClassFile.FieldType.object "java/lang/String")), Jvm.Cond.code ({ cls := "java/lang/String", name := "equals", desc := "(Ljava/lang/Object;)Z" } : Jvm.MethodName) jdk_42_method_66_code (3 : Nat) (Option.some Jvm.ClassFile.FieldType.boolean), Jvm.Cond.code ({ cls := "java/lang/StringLatin1", name := "equals", desc := "([B[B)Z" } : Jvm.MethodName) jdk_43_method_13_code (3 : Nat) (Option.some Jvm.ClassFile.FieldType.boolean), Jvm.Cond.code ({ cls := "com/example/titelfeld/titelfeld/command/CommandFailure", name := "reported", desc := "()Z" } : Jvm.MethodName) prog_3_method_8_code (1 : Nat) (Option.some Jvm.ClassFile.FieldType.boolean)]
set_option maxRecDepth 65536 in
theorem codes_eq : words1.filter isCode = codes1 := rfl
theorem w_codes : ∀ c ∈ words1.filter isCode, c.before args0 about1 = true := by
  rw [codes_eq]
  intro c hc
  simp only [codes1, List.mem_cons, List.not_mem_nil, or_false] at hc
  rcases hc with rfl | rfl | rfl | rfl | rfl | rfl | rfl | rfl | rfl | rfl | rfl | rfl | rfl | rfl | rfl | rfl | rfl | rfl | rfl | rfl | rfl | rfl | rfl | rfl | rfl | rfl | rfl | rfl | rfl | rfl | rfl | rfl | rfl | rfl | rfl | rfl | rfl | rfl | rfl | rfl | rfl
  · exact w_c0
  · exact w_c1
  · exact w_c2
  · exact w_c3
  · exact w_c4
  · exact w_c5
  · exact w_c6
  · exact w_c7
  · exact w_c8
  · exact w_c9
  · exact w_c10
  · exact w_c11
  · exact w_c12
  · exact w_c13
  · exact w_c14
  · exact w_c15
  · exact w_c16
  · exact w_c17
  · exact w_c18
  · exact w_c19
  · exact w_c20
  · exact w_c21
  · exact w_c22
  · exact w_c23
  · exact w_c24
  · exact w_c25
  · exact w_c26
  · exact w_c27
  · exact w_c28
  · exact w_c29
  · exact w_c30
  · exact w_c31
  · exact w_c32
  · exact w_c33
  · exact w_c34
  · exact w_c35
  · exact w_c36
  · exact w_c37
  · exact w_c38
  · exact w_c39
  · exact w_c40
set_option maxRecDepth 65536 in
theorem w_t1 : (words1.take 24).all (fun c => isCode c || c.before args0 about1) = true := by decide +kernel
set_option maxRecDepth 65536 in
theorem w_t2 : ((words1.drop 24).take 24).all (fun c => isCode c || c.before args0 about1) = true := by decide +kernel
set_option maxRecDepth 65536 in
theorem w_t3 : (((words1.drop 24).drop 24).take 24).all (fun c => isCode c || c.before args0 about1) = true := by decide +kernel
set_option maxRecDepth 65536 in
theorem w_t4 : ((((words1.drop 24).drop 24).drop 24).take 24).all (fun c => isCode c || c.before args0 about1) = true := by decide +kernel
set_option maxRecDepth 65536 in
theorem w_t5 : (((((words1.drop 24).drop 24).drop 24).drop 24).take 24).all (fun c => isCode c || c.before args0 about1) = true := by decide +kernel
set_option maxRecDepth 65536 in
theorem w_t6 : ((((((words1.drop 24).drop 24).drop 24).drop 24).drop 24).take 24).all (fun c => isCode c || c.before args0 about1) = true := by decide +kernel
set_option maxRecDepth 65536 in
theorem w_t7 : (((((((words1.drop 24).drop 24).drop 24).drop 24).drop 24).drop 24).take 24).all (fun c => isCode c || c.before args0 about1) = true := by decide +kernel
set_option maxRecDepth 65536 in
theorem w_t8 : ((((((((words1.drop 24).drop 24).drop 24).drop 24).drop 24).drop 24).drop 24).take 24).all (fun c => isCode c || c.before args0 about1) = true := by decide +kernel
set_option maxRecDepth 65536 in
theorem w_t9 : (((((((((words1.drop 24).drop 24).drop 24).drop 24).drop 24).drop 24).drop 24).drop 24).take 24).all (fun c => isCode c || c.before args0 about1) = true := by decide +kernel
set_option maxRecDepth 65536 in
theorem w_t10 : ((((((((((words1.drop 24).drop 24).drop 24).drop 24).drop 24).drop 24).drop 24).drop 24).drop 24).take 24).all (fun c => isCode c || c.before args0 about1) = true := by decide +kernel
set_option maxRecDepth 65536 in
theorem w_t11 : ((((((((((words1.drop 24).drop 24).drop 24).drop 24).drop 24).drop 24).drop 24).drop 24).drop 24).drop 24).all (fun c => isCode c || c.before args0 about1) = true := by decide +kernel
theorem w_tables : (allAtoms (Jvm.Cond.code x code maxLocals ret :: tables_1)).before args0 about1 = true := by
  rw [allAtoms_all]
  show words1.all (fun c => c.before args0 about1) = true
  refine all_split ?_ w_codes
  rw [← List.take_append_drop 24 words1, List.all_append, w_t1, ← List.take_append_drop 24 (words1.drop 24), List.all_append, w_t2, ← List.take_append_drop 24 ((words1.drop 24).drop 24), List.all_append, w_t3, ← List.take_append_drop 24 (((words1.drop 24).drop 24).drop 24), List.all_append, w_t4, ← List.take_append_drop 24 ((((words1.drop 24).drop 24).drop 24).drop 24), List.all_append, w_t5, ← List.take_append_drop 24 (((((words1.drop 24).drop 24).drop 24).drop 24).drop 24), List.all_append, w_t6, ← List.take_append_drop 24 ((((((words1.drop 24).drop 24).drop 24).drop 24).drop 24).drop 24), List.all_append, w_t7, ← List.take_append_drop 24 (((((((words1.drop 24).drop 24).drop 24).drop 24).drop 24).drop 24).drop 24), List.all_append, w_t8, ← List.take_append_drop 24 ((((((((words1.drop 24).drop 24).drop 24).drop 24).drop 24).drop 24).drop 24).drop 24), List.all_append, w_t9, ← List.take_append_drop 24 (((((((((words1.drop 24).drop 24).drop 24).drop 24).drop 24).drop 24).drop 24).drop 24).drop 24), List.all_append, w_t10, w_t11]
  rfl
set_option maxRecDepth 65536 in
theorem w_rest : rest_1_c.before args0 about1 = true := by decide +kernel
set_option maxRecDepth 65536 in
theorem w_case : (Jvm.Cond.and given_1 narrow_1).before args0 about1 = true := by decide +kernel
set_option maxRecDepth 65536 in
theorem w_consts : constsHeld consts_1 about1 := Jvm.Lit.constsHeldB_iff.mp (by decide +kernel)
theorem w_applies : (headSpec (Jvm.Cond.code x code maxLocals ret :: tables_1) room_1).applies x e0.platform about1 = true :=
  (Spec.applies_iff w_frames).mpr ⟨w_running, w_runnable, w_alone, w_named, w_hears, w_ripe, w_room, w_tables⟩
theorem atStart : AtStart classFile x code maxLocals ret World_1 tables_1 room_1 Calls_1 rest_1 Pre_1 launch0 p0 e0 about1 theMethod args0 below0 :=
  ⟨lists_1, trivial, launch0.admits_env _ _ _, launch0.least_env, fairChoices_fair.cas, fairChoices_fair.clock, w_frames, w_args, w_heap, w_applies, ⟨(by decide +kernel : framesKnown about1 = true), ⟨(by decide +kernel : tablesKnown about1 = true), ⟨w_consts, trivial⟩⟩⟩, w_rest, w_case⟩
end start1
theorem witness_1 : WitnessClaimed_1 := ⟨start1.p0, start1.e0, start1.about1, start1.theMethod, start1.args0, start1.below0, start1.atStart⟩
end Jvm.Pilot.@@N@@
