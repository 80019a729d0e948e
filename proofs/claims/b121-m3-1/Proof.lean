import JvmDerived
import JvmDerived.Pilot.@@N@@Statement
import JvmDerived.Pilot.@@N@@Code
set_option linter.unusedVariables false
set_option linter.unusedSimpArgs false
/- laws to paste: Road.backV, Road.codOf, Road.lenW, Road.chN, Road.eqW (cut by pick.py; bodies as the Statement names them) -/
namespace Jvm.Pilot.@@N@@
namespace StrChars
open Jvm Sem ClassFile Op Lib Jvm.Stand Jvm.Free.XT Jvm.Free.ALB Jvm.Free.JM Jvm.Free
open Jvm.Lib.Cold (StaticIs)
/-- a char array whose places are chars -/
def Ch (a : Addr) (A : Cell) (U : State) : Prop := Arr .char a A U ∧ Typed .char A
theorem Ch.mv {a : Addr} {A : Cell} {U U' : State} (h : Ch a A U) (hal : U.vm.Alike U'.vm) (hh : U'.heap = U.heap) : Ch a A U' := ⟨h.1.mv hal hh, h.2⟩
theorem Ch.keep {a : Addr} {A : Cell} {U U' : State} (h : Ch a A U) (hal : U.vm.Alike U'.vm) (hk : U'.heap[a]? = some A) : Ch a A U' := ⟨h.1.keep hal hk, h.2⟩
/-- what place i of a char[]'s cell holds -/
def cv (A : Cell) (i : Nat) : Int32 := match A.slots[i]? with | some (.int x) => x | _ => 0
theorem Ch.get {a : Addr} {A : Cell} {U : State} (h : Ch a A U) {i : Nat} (hi : i < A.slots.size) : A.slots[i]? = some (.int (cv A i)) := by
  have e := Array.getElem?_eq_getElem hi
  have f := h.2 i _ e
  unfold cv; rw [e]
  generalize A.slots[i] = v at f
  cases v <;> simp [fits] at f ⊢
/-- the byte that i2b leaves of a char -/
def lo8 (x : Int32) : Int32 := x.toInt8.toInt32
theorem fits_lo8 (y : Int32) : fits .byte (.int (lo8 y)) = true := by
  have h1 := y.toInt8.le_toInt
  have h2 := y.toInt8.toInt_lt
  simp only [lo8, fits, Bool.and_eq_true, decide_eq_true_eq, Int32.le_iff_toInt_le, Int8.toInt_toInt32, show (-128 : Int32).toInt = -128 from by decide, show (127 : Int32).toInt = 127 from by decide]
  omega
/-- A' is A but that each place j of lo .. hi - 1 holds f j -/
def Laid (A A' : Cell) (lo hi : Nat) (f : Nat → Value) : Prop := A'.cls = A.cls ∧ A'.vm = A.vm ∧ A'.slots.size = A.slots.size ∧ ∀ i, A'.slots[i]? = if lo ≤ i ∧ i < hi then some (f i) else A.slots[i]?
theorem Laid.zero (A : Cell) (lo : Nat) (f : Nat → Value) : Laid A A lo (lo + 0) f := ⟨rfl, rfl, rfl, fun i => by rw [if_neg (by omega)]⟩
theorem Laid.step {A Ak : Cell} {lo k : Nat} {f : Nat → Value} {v : Value} (h : Laid A Ak lo k f) (hlo : lo ≤ k) (hk : k < Ak.slots.size) (hv : v = f k) : Laid A (Ak.setSlot k v) lo (k + 1) f := by
  refine ⟨h.1, h.2.1, by simpa [Cell.setSlot] using h.2.2.1, fun i => ?_⟩
  by_cases e : k = i
  · subst e; rw [Cell.slots_setSlot_self v hk, if_pos (by omega), hv]
  · rw [Cell.slots_setSlot_ne v e, h.2.2.2 i]
    by_cases q : lo ≤ i ∧ i < k
    · rw [if_pos q, if_pos (by omega)]
    · rw [if_neg q, if_neg (by omega)]
def U16 : String := "java/lang/StringUTF16"
namespace Cmp5
def yN : MethodName := ⟨"java/lang/StringUTF16", "compress", "([CI[BII)I"⟩
abbrev yB : ByteArray := jdk_52_method_21_code
theorem d0 : decode yB 0 = .ok (.iconst 0, 1) := by decide +kernel
theorem d1 : decode yB 1 = .ok (.istore 5, 2) := by decide +kernel
theorem d3 : decode yB 3 = .ok (.iload 5, 2) := by decide +kernel
theorem d5 : decode yB 5 = .ok (.iload 4, 2) := by decide +kernel
theorem d7 : decode yB 7 = .ok (.if_icmp (.ge) 37, 3) := by decide +kernel
theorem d10 : decode yB 10 = .ok (.aload_n 0, 1) := by decide +kernel
theorem d11 : decode yB 11 = .ok (.iload_n 1, 1) := by decide +kernel
theorem d12 : decode yB 12 = .ok (.caload, 1) := by decide +kernel
theorem d13 : decode yB 13 = .ok (.istore 6, 2) := by decide +kernel
theorem d15 : decode yB 15 = .ok (.iload 6, 2) := by decide +kernel
theorem d17 : decode yB 17 = .ok (.sipush 255, 3) := by decide +kernel
theorem d20 : decode yB 20 = .ok (.if_icmp (.le) 6, 3) := by decide +kernel
theorem d26 : decode yB 26 = .ok (.aload_n 2, 1) := by decide +kernel
theorem d27 : decode yB 27 = .ok (.iload_n 3, 1) := by decide +kernel
theorem d28 : decode yB 28 = .ok (.iload 6, 2) := by decide +kernel
theorem d30 : decode yB 30 = .ok (.i2b, 1) := by decide +kernel
theorem d31 : decode yB 31 = .ok (.bastore, 1) := by decide +kernel
theorem d32 : decode yB 32 = .ok (.iinc 1 1, 3) := by decide +kernel
theorem d35 : decode yB 35 = .ok (.iinc 3 1, 3) := by decide +kernel
theorem d38 : decode yB 38 = .ok (.iinc 5 1, 3) := by decide +kernel
theorem d41 : decode yB 41 = .ok (.goto (-38), 3) := by decide +kernel
theorem d44 : decode yB 44 = .ok (.iload 4, 2) := by decide +kernel
theorem d46 : decode yB 46 = .ok (.ireturn, 1) := by decide +kernel
def site : List Cond := []
def tab : Cond := tabOf yN yB 7 (some .int) site
def P (b : Addr) (A : Cell) (d : Addr) (B : Cell) (o q len : Nat) (args : Array Value) (s : State) : Prop := args = #[.ref b, .int (Int32.ofNat o), .ref d, .int (Int32.ofNat q), .int (Int32.ofNat len)] ∧ Ch b A s ∧ Arr .byte d B s ∧ b ≠ d ∧ o + len ≤ A.slots.size ∧ q + len ≤ B.slots.size ∧ ∀ i, i < len → ¬ 255 < cv A (o + i)
def E (b : Addr) (A : Cell) (d : Addr) (B : Cell) (o q len : Nat) (r : Option Value) (s u : State) : Prop := r = some (.int (Int32.ofNat len)) ∧ ∃ B', Put d B' s u ∧ Laid B B' q (q + len) (fun j => Value.int (lo8 (cv A (o + (j - q)))))
/-- no char of the range above 255: len; the places written hold each char's low byte -/
theorem law (l : Launch) (b : Addr) (A : Cell) (d : Addr) (B : Cell) (o q len : Nat) : Law l yN 5 5 0 0 yB 7 (some .int) site (P b A d B o q len) (E b A d B o q len) (copyLocs d q len) 0 0 := by
  refine Law.of_walk (plainFor_of_name (by decide +kernel)) (by decide +kernel) (by decide +kernel) (by decide) (fun _ _ h => by rw [h.1]; rfl) (fun _ U U' hal hh h => ⟨h.1, h.2.1.mv hal hh, h.2.2.1.mv hal hh, h.2.2.2⟩) (fun r U U' V V' h1 hal h2 h => ⟨h.1, h.2.elim fun B' q => ⟨B', q.1.mv h1 h2, q.2⟩⟩) ?_
  intro p e s m args below meth c s₁ X0 hexec hbytes hml hret hlk hnm hown hh0 W hP
  obtain ⟨rfl, hA, hB, hne, l1, l2, hp⟩ := hP
  have c1 : Steps p.tables e below (s₁.setTop (entryFrame m #[.ref b, .int (Int32.ofNat o), .ref d, .int (Int32.ofNat q), .int (Int32.ofNat len)] 7)) (s₁.setTop (mkF m 0 #[.val (.ref b), .val (.int (Int32.ofNat o)), .val (.ref d), .val (.int (Int32.ofNat q)), .val (.int (Int32.ofNat len)), .unset, .unset] [])) := entry rfl
  have hA0 := hA.1.mv X0.warmed.alike hh0
  have hB0 := hB.mv X0.warmed.alike hh0
  have a31 := hA.1.2.2.2
  have c2 : Steps p.tables e below (s₁.setTop (entryFrame m #[.ref b, .int (Int32.ofNat o), .ref d, .int (Int32.ofNat q), .int (Int32.ofNat len)] 7)) (s₁.setTop (mkF m 3 #[.val (.ref b), .val (.int (Int32.ofNat o)), .val (.ref d), .val (.int (Int32.ofNat q)), .val (.int (Int32.ofNat len)), .val (.int 0), .unset] [])) := c1.trans (by
    refine iconstV X0.here hexec rfl 0 (hb hbytes d0) (by decide) ?_
    refine XS.istore X0.here hexec rfl (hb hbytes d1) rfl rfl ?_
    exact Steps.refl _)
  have loop : ∀ (r i : Nat), i + r = len → ∀ (z : Slot), (z = .unset ∨ ∃ w, z = .val w ∧ w.category = 1) → ∀ (Tl : State) (Bk : Cell), Stand p l e { frames := 0, locals := 0, cells := 0, slots := 0 } s m #[.ref b, .int (Int32.ofNat o), .ref d, .int (Int32.ofNat q), .int (Int32.ofNat len)] below meth c Tl ([] ++ copyLocs d q i) 0 0 → Put d Bk s₁ Tl → Laid B Bk q (q + i) (fun j => Value.int (lo8 (cv A (o + (j - q))))) →
      Steps p.tables e below (s₁.setTop (entryFrame m #[.ref b, .int (Int32.ofNat o), .ref d, .int (Int32.ofNat q), .int (Int32.ofNat len)] 7)) (Tl.setTop (mkF m 3 #[.val (.ref b), .val (.int (Int32.ofNat (o + i))), .val (.ref d), .val (.int (Int32.ofNat (q + i))), .val (.int (Int32.ofNat len)), .val (.int (Int32.ofNat i)), z] [])) → ∃ (T' : State) (B' : Cell) (z' : Slot), Stand p l e { frames := 0, locals := 0, cells := 0, slots := 0 } s m #[.ref b, .int (Int32.ofNat o), .ref d, .int (Int32.ofNat q), .int (Int32.ofNat len)] below meth c T' ([] ++ copyLocs d q len) 0 0 ∧ Put d B' s₁ T' ∧ Laid B B' q (q + len) (fun j => Value.int (lo8 (cv A (o + (j - q))))) ∧
      Steps p.tables e below (s₁.setTop (entryFrame m #[.ref b, .int (Int32.ofNat o), .ref d, .int (Int32.ofNat q), .int (Int32.ofNat len)] 7)) (T'.setTop (mkF m 3 #[.val (.ref b), .val (.int (Int32.ofNat (o + len))), .val (.ref d), .val (.int (Int32.ofNat (q + len))), .val (.int (Int32.ofNat len)), .val (.int (Int32.ofNat len)), z'] [])) := by
    intro r
    induction r with
    | zero =>
      intro i hi z hz Tl Bk Xl pl fl cl
      have hil : i = len := by omega
      rw [hil] at Xl fl cl
      exact ⟨Tl, Bk, z, Xl, pl, fl, cl⟩
    | succ r ih =>
      intro i hi z hz Tl Bk Xl pl fl cl
      have all := X0.warmed.alike.symm.trans Xl.warmed.alike
      have hAl := hA0.keep all (pl.other hne hA0.1)
      have hBk := hB0.like all pl.1 fl.1 fl.2.1 fl.2.2.1
      have hlt : q + i < Bk.slots.size := by rw [fl.2.2.1]; omega
      have c3 : Steps p.tables e below (s₁.setTop (entryFrame m #[.ref b, .int (Int32.ofNat o), .ref d, .int (Int32.ofNat q), .int (Int32.ofNat len)] 7)) (Tl.setTop (mkF m 12 #[.val (.ref b), .val (.int (Int32.ofNat (o + i))), .val (.ref d), .val (.int (Int32.ofNat (q + i))), .val (.int (Int32.ofNat len)), .val (.int (Int32.ofNat i)), z] [.int (Int32.ofNat (o + i)), .ref b])) := cl.trans (by
        refine XS.iload Xl.here hexec rfl (hb hbytes d3) rfl ?_
        refine XS.iload Xl.here hexec rfl (hb hbytes d5) rfl ?_
        refine XS.icmpNo Xl.here hexec rfl (hb hbytes d7) rfl (ii_ge_f (lt32 (by omega) (by omega))) ?_
        refine XS.aloadN Xl.here hexec rfl (hb hbytes d10) rfl rfl ?_
        refine XS.iloadN Xl.here hexec rfl (hb hbytes d11) rfl ?_
        exact Steps.refl _)
      have c4 : Steps p.tables e below (s₁.setTop (entryFrame m #[.ref b, .int (Int32.ofNat o), .ref d, .int (Int32.ofNat q), .int (Int32.ofNat len)] 7)) (Tl.setTop (mkF m 13 #[.val (.ref b), .val (.int (Int32.ofNat (o + i))), .val (.ref d), .val (.int (Int32.ofNat (q + i))), .val (.int (Int32.ofNat len)), .val (.int (Int32.ofNat i)), z] [.int (cv A (o + i))])) := c3.trans (by
        refine Xl.aget hexec hAl rfl (hA.get (i := o + i) (by omega)) rfl rfl (hb hbytes d12) ?_
        exact Steps.refl _)
      have c5 : Steps p.tables e below (s₁.setTop (entryFrame m #[.ref b, .int (Int32.ofNat o), .ref d, .int (Int32.ofNat q), .int (Int32.ofNat len)] 7)) (Tl.setTop (mkF m 15 #[.val (.ref b), .val (.int (Int32.ofNat (o + i))), .val (.ref d), .val (.int (Int32.ofNat (q + i))), .val (.int (Int32.ofNat len)), .val (.int (Int32.ofNat i)), .val (.int (cv A (o + i)))] [])) := c4.trans (by
        refine XS.istoreS Xl.here hexec rfl (hb hbytes d13) rfl rfl hz ?_
        exact Steps.refl _)
      have c6 : Steps p.tables e below (s₁.setTop (entryFrame m #[.ref b, .int (Int32.ofNat o), .ref d, .int (Int32.ofNat q), .int (Int32.ofNat len)] 7)) (Tl.setTop (mkF m 31 #[.val (.ref b), .val (.int (Int32.ofNat (o + i))), .val (.ref d), .val (.int (Int32.ofNat (q + i))), .val (.int (Int32.ofNat len)), .val (.int (Int32.ofNat i)), .val (.int (cv A (o + i)))] [.int (lo8 (cv A (o + i))), .int (Int32.ofNat (q + i)), .ref d])) := c5.trans (by
        refine XS.iload Xl.here hexec rfl (hb hbytes d15) rfl ?_
        refine sipushV Xl.here hexec rfl 255 (hb hbytes d17) (by decide) ?_
        refine XS.icmpYes Xl.here hexec rfl (pc0 := 20) rfl (hb hbytes d20) rfl (ii_le_t (hp i (by omega))) (by decide) rfl ?_
        refine XS.aloadN Xl.here hexec rfl (hb hbytes d26) rfl rfl ?_
        refine XS.iloadN Xl.here hexec rfl (hb hbytes d27) rfl ?_
        refine XS.iload Xl.here hexec rfl (hb hbytes d28) rfl ?_
        refine i2b Xl.here hexec rfl (hb hbytes d30) rfl ?_
        exact Steps.refl _)
      obtain ⟨T7, X7, p7, st7⟩ := Xl.aput hexec hBk rfl hlt rfl (fits_lo8 (cv A (o + i))) (g := (mkF m 31 #[.val (.ref b), .val (.int (Int32.ofNat (o + i))), .val (.ref d), .val (.int (Int32.ofNat (q + i))), .val (.int (Int32.ofNat len)), .val (.int (Int32.ofNat i)), .val (.int (cv A (o + i)))] [.int (lo8 (cv A (o + i))), .int (Int32.ofNat (q + i)), .ref d])) rfl (rest := []) rfl (hb hbytes d31)
      have c8 : Steps p.tables e below (s₁.setTop (entryFrame m #[.ref b, .int (Int32.ofNat o), .ref d, .int (Int32.ofNat q), .int (Int32.ofNat len)] 7)) (T7.setTop (mkF m 32 #[.val (.ref b), .val (.int (Int32.ofNat (o + i))), .val (.ref d), .val (.int (Int32.ofNat (q + i))), .val (.int (Int32.ofNat len)), .val (.int (Int32.ofNat i)), .val (.int (cv A (o + i)))] [])) := c6.trans (st7 _ (Steps.refl _))
      have c9 : Steps p.tables e below (s₁.setTop (entryFrame m #[.ref b, .int (Int32.ofNat o), .ref d, .int (Int32.ofNat q), .int (Int32.ofNat len)] 7)) (T7.setTop (mkF m 3 #[.val (.ref b), .val (.int (Int32.ofNat (o + i) + 1)), .val (.ref d), .val (.int (Int32.ofNat (q + i) + 1)), .val (.int (Int32.ofNat len)), .val (.int (Int32.ofNat i + 1)), .val (.int (cv A (o + i)))] [])) := c8.trans (by
        refine iincV X7.here hexec rfl 1 (hb hbytes d32) (by decide) rfl rfl ?_
        refine iincV X7.here hexec rfl 1 (hb hbytes d35) (by decide) rfl rfl ?_
        refine iincV X7.here hexec rfl 1 (hb hbytes d38) (by decide) rfl rfl ?_
        refine XS.goto X7.here hexec rfl (pc0 := 41) rfl (hb hbytes d41) (by decide) rfl ?_
        exact Steps.refl _)
      have c10 : Steps p.tables e below (s₁.setTop (entryFrame m #[.ref b, .int (Int32.ofNat o), .ref d, .int (Int32.ofNat q), .int (Int32.ofNat len)] 7)) (T7.setTop (mkF m 3 #[.val (.ref b), .val (.int (Int32.ofNat (o + (i + 1)))), .val (.ref d), .val (.int (Int32.ofNat (q + (i + 1)))), .val (.int (Int32.ofNat len)), .val (.int (Int32.ofNat (i + 1))), .val (.int (cv A (o + i)))] [])) := by
        have := c9
        rw [succ32, succ32, succ32] at this
        exact this
      exact ih (i + 1) (by omega) _ (Or.inr ⟨_, rfl, rfl⟩) T7 _ (by rw [copyLocs_step, ← List.append_assoc]; exact X7) (pl.trans p7) (fl.step (by omega) hlt (by simp)) c10
  obtain ⟨T9, B9, z9, X9, p9, f9, g9⟩ := loop len 0 (by omega) .unset (Or.inl rfl) s₁ B (by simpa [copyLocs] using X0) ⟨hB0.1, fun _ _ => rfl, rfl⟩ (Laid.zero _ _ _) c2
  have c11 : Steps p.tables e below (s₁.setTop (entryFrame m #[.ref b, .int (Int32.ofNat o), .ref d, .int (Int32.ofNat q), .int (Int32.ofNat len)] 7)) (T9.setTop (mkF m 46 #[.val (.ref b), .val (.int (Int32.ofNat (o + len))), .val (.ref d), .val (.int (Int32.ofNat (q + len))), .val (.int (Int32.ofNat len)), .val (.int (Int32.ofNat len)), z9] [.int (Int32.ofNat len)])) := g9.trans (by
    refine XS.iload X9.here hexec rfl (hb hbytes d3) rfl ?_
    refine XS.iload X9.here hexec rfl (hb hbytes d5) rfl ?_
    refine XS.icmpYes X9.here hexec rfl (pc0 := 7) rfl (hb hbytes d7) rfl (ii_ge_t (nlt32 (by omega) (Nat.le_refl _))) (by decide) rfl ?_
    refine XS.iload X9.here hexec rfl (hb hbytes d44) rfl ?_
    exact Steps.refl _)
  exact ⟨T9, some (.int (Int32.ofNat len)), _, _, _, X9, by simp, rfl, rfl, (fun h => by cases h), ⟨rfl, B9, p9.from hh0, f9⟩, fun fs hl => c11.trans (X9.ireturnOut hexec hret rfl (Or.inl rfl) (hb hbytes d46) hl)⟩
end Cmp5
namespace Cmp3
def yN : MethodName := ⟨"java/lang/StringUTF16", "compress", "([CII)[B"⟩
abbrev yB : ByteArray := jdk_52_method_16_code
theorem d0 : decode yB 0 = .ok (.iload_n 2, 1) := by decide +kernel
theorem d1 : decode yB 1 = .ok (.newarray .byte, 2) := by decide +kernel
theorem d3 : decode yB 3 = .ok (.astore_n 3, 1) := by decide +kernel
theorem d4 : decode yB 4 = .ok (.aload_n 0, 1) := by decide +kernel
theorem d5 : decode yB 5 = .ok (.iload_n 1, 1) := by decide +kernel
theorem d6 : decode yB 6 = .ok (.aload_n 3, 1) := by decide +kernel
theorem d7 : decode yB 7 = .ok (.iconst 0, 1) := by decide +kernel
theorem d8 : decode yB 8 = .ok (.iload_n 2, 1) := by decide +kernel
theorem d9 : decode yB 9 = .ok (.invokestatic 115, 3) := by decide +kernel
theorem d12 : decode yB 12 = .ok (.istore 4, 2) := by decide +kernel
theorem d14 : decode yB 14 = .ok (.iload 4, 2) := by decide +kernel
theorem d16 : decode yB 16 = .ok (.iload_n 2, 1) := by decide +kernel
theorem d17 : decode yB 17 = .ok (.if_icmp (.eq) 40, 3) := by decide +kernel
theorem d57 : decode yB 57 = .ok (.aload_n 3, 1) := by decide +kernel
theorem d58 : decode yB 58 = .ok (.areturn, 1) := by decide +kernel
def site : List Cond := [.arrayClass .byte, Cmp5.tab] ++ staticW U16 115 Cmp5.yN
def tab : Cond := tabOf yN yB 6 (some (.array .byte)) site
def P (b : Addr) (A : Cell) (o len : Nat) (args : Array Value) (s : State) : Prop := args = #[.ref b, .int (Int32.ofNat o), .int (Int32.ofNat len)] ∧ Ch b A s ∧ o + len ≤ A.slots.size ∧ len ≤ 536870912 ∧ ∀ i, i < len → ¬ 255 < cv A (o + i)
def E (b : Addr) (A : Cell) (o len : Nat) (r : Option Value) (s u : State) : Prop := NewArr .byte "[B" len (fun j => .int (lo8 (cv A (o + j)))) r s u ∧ u.heap.size = s.heap.size + 1
/-- no char of the range above 255: a new byte[] of their low bytes -/
theorem law (l : Launch) (b : Addr) (A : Cell) (o len : Nat) : Law l yN 3 3 1 18 yB 6 (some (.array .byte)) site (P b A o len) (E b A o len) [] 1 len := by
  refine Law.of_walk (plainFor_of_name (by decide +kernel)) (by decide +kernel) (by decide +kernel) (by decide) (fun _ _ h => by rw [h.1]; rfl) (fun _ U U' hal hh h => ⟨h.1, h.2.1.mv hal hh, h.2.2⟩) (fun r U U' V V' h1 hal h2 h => ⟨NewArr.mv r U U' V V' h1 hal h2 h.1, by rw [h1, h2]; exact h.2⟩) ?_
  intro p e s m args below meth c s₁ X0 hexec hbytes hml hret hlk hnm hown hh0 W hP
  obtain ⟨rfl, hA, l1, l2, hp⟩ := hP
  have a31 := hA.1.2.2.2
  have c1 : Steps p.tables e below (s₁.setTop (entryFrame m #[.ref b, .int (Int32.ofNat o), .int (Int32.ofNat len)] 6)) (s₁.setTop (mkF m 0 #[.val (.ref b), .val (.int (Int32.ofNat o)), .val (.int (Int32.ofNat len)), .unset, .unset, .unset] [])) := entry rfl
  have c2 : Steps p.tables e below (s₁.setTop (entryFrame m #[.ref b, .int (Int32.ofNat o), .int (Int32.ofNat len)] 6)) (s₁.setTop (mkF m 1 #[.val (.ref b), .val (.int (Int32.ofNat o)), .val (.int (Int32.ofNat len)), .unset, .unset, .unset] [.int (Int32.ofNat len)])) := c1.trans (by
    refine XS.iloadN X0.here hexec rfl (hb hbytes d0) rfl ?_
    exact Steps.refl _)
  obtain ⟨T3, B3, X3, ba3, bs3, bv3, bh3, bf3, st3⟩ := X0.anew hexec (atype := .byte) (wk W (.arrayClass .byte)) rfl (by show len * 1 ≤ _; omega) (by omega) (g := (mkF m 1 #[.val (.ref b), .val (.int (Int32.ofNat o)), .val (.int (Int32.ofNat len)), .unset, .unset, .unset] [.int (Int32.ofNat len)])) rfl (hb hbytes d1) (rest := []) rfl (Nat.le_refl _) (by show 0 + len ≤ len; omega)
  rw [hh0] at ba3 st3
  have kp3 : XT.Kept s T3 := (XT.Kept.of_eq hh0).push bh3
  have hA3 := hA.keep X3.warmed.alike (kp3 _ _ hA.1.1)
  have hne : b ≠ s.heap.size := hA.1.ne
  have c4 : Steps p.tables e below (s₁.setTop (entryFrame m #[.ref b, .int (Int32.ofNat o), .int (Int32.ofNat len)] 6)) (T3.setTop (mkF m 3 #[.val (.ref b), .val (.int (Int32.ofNat o)), .val (.int (Int32.ofNat len)), .unset, .unset, .unset] [.ref s.heap.size])) := c2.trans (st3 _ (Steps.refl _))
  have c5 : Steps p.tables e below (s₁.setTop (entryFrame m #[.ref b, .int (Int32.ofNat o), .int (Int32.ofNat len)] 6)) (T3.setTop (mkF m 9 #[.val (.ref b), .val (.int (Int32.ofNat o)), .val (.int (Int32.ofNat len)), .val (.ref s.heap.size), .unset, .unset] [.int (Int32.ofNat len), .int 0, .ref s.heap.size, .int (Int32.ofNat o), .ref b])) := c4.trans (by
    refine XS.astoreN X3.here hexec rfl (hb hbytes d3) rfl rfl rfl ?_
    refine XS.aloadN X3.here hexec rfl (hb hbytes d4) rfl rfl ?_
    refine XS.iloadN X3.here hexec rfl (hb hbytes d5) rfl ?_
    refine XS.aloadN X3.here hexec rfl (hb hbytes d6) rfl rfl ?_
    refine iconstV X3.here hexec rfl 0 (hb hbytes d7) (by decide) ?_
    refine XS.iloadN X3.here hexec rfl (hb hbytes d8) rfl ?_
    exact Steps.refl _)
  obtain ⟨v6, T6, X6, E6, g6⟩ := X3.callS hexec (Cmp5.law l b A s.heap.size B3 o 0 len) hown (wks W (staticW U16 115 Cmp5.yN)) (wk W Cmp5.tab) (W := 0) (Nat.le_of_ble_eq_true rfl) (Nat.le_of_ble_eq_true rfl) (Nat.le_refl _) (by show 0 + len + 0 ≤ len; omega) (g := (mkF m 9 #[.val (.ref b), .val (.int (Int32.ofNat o)), .val (.int (Int32.ofNat len)), .val (.ref s.heap.size), .unset, .unset] [.int (Int32.ofNat len), .int (Int32.ofNat 0), .ref s.heap.size, .int (Int32.ofNat o), .ref b])) rfl (by rw [hml]; rfl) c5 (argsL := [.ref b, .int (Int32.ofNat o), .ref s.heap.size, .int (Int32.ofNat 0), .int (Int32.ofNat len)]) (rest := []) rfl rfl (by show 2 * 0 + 0 ≤ _; decide) (hb hbytes d9) (⟨rfl, hA3, ba3, hne, l1, by rw [bs3]; simp, hp⟩)
  obtain ⟨rfl, B6, p6, f6⟩ := E6
  have c7 : Steps p.tables e below (s₁.setTop (entryFrame m #[.ref b, .int (Int32.ofNat o), .int (Int32.ofNat len)] 6)) (T6.setTop (mkF m 12 #[.val (.ref b), .val (.int (Int32.ofNat o)), .val (.int (Int32.ofNat len)), .val (.ref s.heap.size), .unset, .unset] [.int (Int32.ofNat len)])) := g6
  have c8 : Steps p.tables e below (s₁.setTop (entryFrame m #[.ref b, .int (Int32.ofNat o), .int (Int32.ofNat len)] 6)) (T6.setTop (mkF m 58 #[.val (.ref b), .val (.int (Int32.ofNat o)), .val (.int (Int32.ofNat len)), .val (.ref s.heap.size), .val (.int (Int32.ofNat len)), .unset] [.ref s.heap.size])) := c7.trans (by
    refine XS.istore X6.here hexec rfl (hb hbytes d12) rfl rfl ?_
    refine XS.iload X6.here hexec rfl (hb hbytes d14) rfl ?_
    refine XS.iloadN X6.here hexec rfl (hb hbytes d16) rfl ?_
    refine XS.icmpYes X6.here hexec rfl (pc0 := 17) rfl (hb hbytes d17) rfl (ii_eq_t rfl) (by decide) rfl ?_
    refine XS.aloadN X6.here hexec rfl (hb hbytes d57) rfl rfl ?_
    exact Steps.refl _)
  have X8 := X6.wide (L' := []) (cells' := 1) (slots' := len) (fun x hx hlt => by
    simp only [List.nil_append, copyLocs, List.mem_map, List.mem_range] at hx
    obtain ⟨i, -, rfl⟩ := hx
    exact absurd hlt (Nat.lt_irrefl _)) (Nat.le_refl _) (by omega)
  exact ⟨T6, some (.ref s.heap.size), _, _, _, X8, rfl, rfl, rfl, (fun h => by cases h), ⟨⟨rfl, B6, ba3.like (X3.warmed.alike.symm.trans X6.warmed.alike) p6.1 f6.1 f6.2.1 f6.2.2.1, f6.2.1.trans bv3, by rw [X6.warmed.alike.findClass, f6.1]; exact bf3, by rw [f6.2.2.1, bs3]; simp, fun j hj => by rw [f6.2.2.2 j, if_pos (by omega)]; rfl, kp3.put p6 (Nat.le_refl _)⟩, by rw [p6.2.2, bh3, hh0]; simp⟩, fun fs hl => c8.trans (X8.areturnOut hexec rfl hret rfl (hb hbytes d58) hl)⟩
end Cmp3
namespace CodL
def yN : MethodName := ⟨"java/lang/StringUTF16", "coderFromArrayLen", "([BI)B"⟩
abbrev yB : ByteArray := jdk_52_method_15_code
theorem d0 : decode yB 0 = .ok (.iload_n 1, 1) := by decide +kernel
theorem d1 : decode yB 1 = .ok (.aload_n 0, 1) := by decide +kernel
theorem d2 : decode yB 2 = .ok (.arraylength, 1) := by decide +kernel
theorem d3 : decode yB 3 = .ok (.isub, 1) := by decide +kernel
theorem d4 : decode yB 4 = .ok (.bipush 31, 2) := by decide +kernel
theorem d6 : decode yB 6 = .ok (.iushr, 1) := by decide +kernel
theorem d7 : decode yB 7 = .ok (.i2b, 1) := by decide +kernel
theorem d8 : decode yB 8 = .ok (.ireturn, 1) := by decide +kernel
def site : List Cond := []
def tab : Cond := tabOf yN yB 2 (some .byte) site
def P (d : Addr) (B : Cell) (args : Array Value) (s : State) : Prop := args = #[.ref d, .int (Int32.ofNat B.slots.size)] ∧ Arr .byte d B s
def E (r : Option Value) (s u : State) : Prop := XT.PureE (some (.int 0)) r s u
/-- an array as long as the number of chars: LATIN1 -/
theorem law (l : Launch) (d : Addr) (B : Cell) : Law l yN 2 2 0 0 yB 2 (some .byte) site (P d B) E [] 0 0 := by
  refine Law.of_walk (plainFor_of_name (by decide +kernel)) (by decide +kernel) (by decide +kernel) (by decide) (fun _ _ h => by rw [h.1]; rfl) (fun _ U U' hal hh h => ⟨h.1, h.2.mv hal hh⟩) (fun r U U' V V' h1 hal h2 h => XT.PureE.mv r U U' V V' h1 hal h2 h) ?_
  intro p e s m args below meth c s₁ X0 hexec hbytes hml hret hlk hnm hown hh0 W hP
  obtain ⟨rfl, hB⟩ := hP
  have hB0 := hB.mv X0.warmed.alike hh0
  have c1 : Steps p.tables e below (s₁.setTop (entryFrame m #[.ref d, .int (Int32.ofNat B.slots.size)] 2)) (s₁.setTop (mkF m 0 #[.val (.ref d), .val (.int (Int32.ofNat B.slots.size))] [])) := entry rfl
  have c2 : Steps p.tables e below (s₁.setTop (entryFrame m #[.ref d, .int (Int32.ofNat B.slots.size)] 2)) (s₁.setTop (mkF m 2 #[.val (.ref d), .val (.int (Int32.ofNat B.slots.size))] [.ref d, .int (Int32.ofNat B.slots.size)])) := c1.trans (by
    refine XS.iloadN X0.here hexec rfl (hb hbytes d0) rfl ?_
    refine XS.aloadN X0.here hexec rfl (hb hbytes d1) rfl rfl ?_
    exact Steps.refl _)
  have c3 : Steps p.tables e below (s₁.setTop (entryFrame m #[.ref d, .int (Int32.ofNat B.slots.size)] 2)) (s₁.setTop (mkF m 8 #[.val (.ref d), .val (.int (Int32.ofNat B.slots.size))] [.int (lo8 (ushr (Int32.ofNat B.slots.size - Int32.ofNat B.slots.size) 31))])) := c2.trans (by
    refine X0.alen hexec hB0 rfl rfl (hb hbytes d2) ?_
    refine XS.isub X0.here hexec rfl (hb hbytes d3) rfl ?_
    refine bipushV X0.here hexec rfl 31 (hb hbytes d4) (by decide) ?_
    refine iushr X0.here hexec rfl (hb hbytes d6) rfl ?_
    refine i2b X0.here hexec rfl (hb hbytes d7) rfl ?_
    exact Steps.refl _)
  have e0 : lo8 (ushr (Int32.ofNat B.slots.size - Int32.ofNat B.slots.size) 31) = 0 := by rw [Int32.sub_self]; decide
  rw [e0] at c3
  exact ⟨s₁, some (.int 0), _, _, _, X0, rfl, rfl, rfl, (fun h => by cases h), ⟨rfl, hh0⟩, fun fs hl => c3.trans (X0.ireturnOut hexec hret rfl (Or.inr (Or.inr (Or.inl rfl))) (hb hbytes d8) hl)⟩
end CodL
/-- the String at a is Latin-1 over a new byte[] (the heap's one new cell): the low bytes of the len chars of A from o on; every cell but a is kept -/
def Got (a : Addr) (D : Cell) (fV fC : Field) (A : Cell) (o len : Nat) (r : Option Value) (s u : State) : Prop := r = none ∧ ∃ D' V : Cell, Blank "java/lang/String" a D' u ∧ Same D D' [fV.slot, fC.slot] ∧ D'.slots[fV.slot]? = some (.ref s.heap.size) ∧ D'.slots[fC.slot]? = some (.int 0) ∧ Arr .byte s.heap.size V u ∧ V.vm = .none ∧ u.vm.findClass "[B" = some V.cls ∧ V.slots.size = len ∧ (∀ j, j < len → V.slots[j]? = some (.int (lo8 (cv A (o + j))))) ∧ (∀ (y : Addr) (c : Cell), y ≠ a → s.heap[y]? = some c → u.heap[y]? = some c) ∧ u.heap.size = s.heap.size + 1
theorem Got.mv {a : Addr} {D A : Cell} {fV fC : Field} {o len : Nat} : ∀ r (U U' V V' : State), U'.heap = U.heap → V.vm.Alike V'.vm → V'.heap = V.heap → Got a D fV fC A o len r U V → Got a D fV fC A o len r U' V' :=
  fun r U U' V V' h1 hal h2 ⟨e0, D', X, a1, a2, a3, a4, a5, a6, a7, a8, a9, a10, a11⟩ => ⟨e0, D', X, a1.mv hal h2, a2, by rw [h1]; exact a3, a4, by rw [h1]; exact a5.mv hal h2, a6, by rw [hal.findClass]; exact a7, a8, a9, by rw [h1, h2]; exact a10, by rw [h1, h2]; exact a11⟩
namespace New4
def yN : MethodName := ⟨"java/lang/String", "<init>", "([CIILjava/lang/Void;)V"⟩
abbrev yB : ByteArray := jdk_42_method_149_code
theorem d0 : decode yB 0 = .ok (.aload_n 0, 1) := by decide +kernel
theorem d1 : decode yB 1 = .ok (.invokespecial 1, 3) := by decide +kernel
theorem d4 : decode yB 4 = .ok (.iload_n 3, 1) := by decide +kernel
theorem d5 : decode yB 5 = .ok (.ifCond (.ne) 22, 3) := by decide +kernel
theorem d27 : decode yB 27 = .ok (.getstatic 38, 3) := by decide +kernel
theorem d30 : decode yB 30 = .ok (.ifCond (.eq) 28, 3) := by decide +kernel
theorem d33 : decode yB 33 = .ok (.aload_n 1, 1) := by decide +kernel
theorem d34 : decode yB 34 = .ok (.iload_n 2, 1) := by decide +kernel
theorem d35 : decode yB 35 = .ok (.iload_n 3, 1) := by decide +kernel
theorem d36 : decode yB 36 = .ok (.invokestatic 177, 3) := by decide +kernel
theorem d39 : decode yB 39 = .ok (.astore 5, 2) := by decide +kernel
theorem d41 : decode yB 41 = .ok (.aload_n 0, 1) := by decide +kernel
theorem d42 : decode yB 42 = .ok (.aload 5, 2) := by decide +kernel
theorem d44 : decode yB 44 = .ok (.iload_n 3, 1) := by decide +kernel
theorem d45 : decode yB 45 = .ok (.invokestatic 47, 3) := by decide +kernel
theorem d48 : decode yB 48 = .ok (.putfield 15, 3) := by decide +kernel
theorem d51 : decode yB 51 = .ok (.aload_n 0, 1) := by decide +kernel
theorem d52 : decode yB 52 = .ok (.aload 5, 2) := by decide +kernel
theorem d54 : decode yB 54 = .ok (.putfield 9, 3) := by decide +kernel
theorem d57 : decode yB 57 = .ok (.return_, 1) := by decide +kernel
def site : List Cond := [.fieldLink "java/lang/String" 38 "java/lang/String" "COMPACT_STRINGS" "Z", Cmp3.tab, CodL.tab, .laysFinal "java/lang/String" "java/lang/String" "value" "[B", .fieldLink "java/lang/String" 9 "java/lang/String" "value" "[B", .laysFinal "java/lang/String" "java/lang/String" "coder" "B", .fieldLink "java/lang/String" 15 "java/lang/String" "coder" "B"] ++ objW "java/lang/String" 1 ++ staticW "java/lang/String" 177 Cmp3.yN ++ staticW "java/lang/String" 47 CodL.yN
def tab : Cond := tabOf yN yB 6 none site
def P (a : Addr) (D : Cell) (fV fC : Field) (b : Addr) (A : Cell) (z : Int32) (o len : Nat) (args : Array Value) (s : State) : Prop := args = #[.ref a, .ref b, .int (Int32.ofNat o), .int (Int32.ofNat len), .null] ∧ Blank "java/lang/String" a D s ∧ Found "java/lang/String" "value" "[B" fV s ∧ Found "java/lang/String" "coder" "B" fC s ∧ Ch b A s ∧ StaticIs s "java/lang/String" "COMPACT_STRINGS" "Z" (.int z) ∧ ¬ z = 0 ∧ 0 < len ∧ o + len ≤ A.slots.size ∧ len ≤ 536870912 ∧ ∀ i, i < len → ¬ 255 < cv A (o + i)
def E (a : Addr) (D : Cell) (fV fC : Field) (A : Cell) (o len : Nat) (r : Option Value) (s u : State) : Prop := Got a D fV fC A o len r s u
/-- len > 0, no char of the range above 255: a Latin-1 String of their low bytes -/
theorem law (l : Launch) (a : Addr) (D : Cell) (fV fC : Field) (b : Addr) (A : Cell) (z : Int32) (o len : Nat) : Law l yN 5 4 2 35 yB 6 none site (P a D fV fC b A z o len) (E a D fV fC A o len) [⟨a, fC.slot⟩, ⟨a, fV.slot⟩] 1 len := by
  refine Law.of_walk (plainFor_of_name (by decide +kernel)) (by decide +kernel) (by decide +kernel) (by decide) (fun _ _ h => by rw [h.1]; rfl) (fun _ U U' hal hh h => ⟨h.1, h.2.1.mv hal hh, h.2.2.1.al hal, h.2.2.2.1.al hal, h.2.2.2.2.1.mv hal hh, h.2.2.2.2.2.1.there hal hh, h.2.2.2.2.2.2⟩) (fun r U U' V V' h1 hal h2 h => Got.mv r U U' V V' h1 hal h2 h) ?_
  intro p e s m args below meth c s₁ X0 hexec hbytes hml hret hlk hnm hown hh0 W hP
  obtain ⟨rfl, hB, f1, f2, hA, s1, hz, l0, l1, l2, hp⟩ := hP
  have a31 := hA.1.2.2.2
  have c1 : Steps p.tables e below (s₁.setTop (entryFrame m #[.ref a, .ref b, .int (Int32.ofNat o), .int (Int32.ofNat len), .null] 6)) (s₁.setTop (mkF m 0 #[.val (.ref a), .val (.ref b), .val (.int (Int32.ofNat o)), .val (.int (Int32.ofNat len)), .val .null, .unset] [])) := entry rfl
  have c2 : Steps p.tables e below (s₁.setTop (entryFrame m #[.ref a, .ref b, .int (Int32.ofNat o), .int (Int32.ofNat len), .null] 6)) (s₁.setTop (mkF m 1 #[.val (.ref a), .val (.ref b), .val (.int (Int32.ofNat o)), .val (.int (Int32.ofNat len)), .val .null, .unset] [.ref a])) := c1.trans (by
    refine XS.aloadN X0.here hexec rfl (hb hbytes d0) rfl rfl ?_
    exact Steps.refl _)
  obtain ⟨T3, X3, q3, st3⟩ := X0.oinit hexec hown (wks W (objW "java/lang/String" 1)) (g := (mkF m 1 #[.val (.ref a), .val (.ref b), .val (.int (Int32.ofNat o)), .val (.int (Int32.ofNat len)), .val .null, .unset] [.ref a])) rfl (by rw [hml]; rfl) (rest := []) rfl (hb hbytes d1) (W := 0) (by show 2 * 0 + 0 ≤ _; decide) (Nat.le_of_ble_eq_true rfl) (Nat.le_of_ble_eq_true rfl)
  have hh3 := q3.trans hh0
  have c4 : Steps p.tables e below (s₁.setTop (entryFrame m #[.ref a, .ref b, .int (Int32.ofNat o), .int (Int32.ofNat len), .null] 6)) (T3.setTop (mkF m 27 #[.val (.ref a), .val (.ref b), .val (.int (Int32.ofNat o)), .val (.int (Int32.ofNat len)), .val .null, .unset] [])) := (c2.trans (st3 _ (Steps.refl _))).trans (by
    refine XS.iloadN X3.here hexec rfl (hb hbytes d4) rfl ?_
    refine XS.ifYes X3.here hexec rfl (pc0 := 5) rfl (hb hbytes d5) rfl (i0_ne_t (nz32 (by omega) l0)) (by decide) rfl ?_
    exact Steps.refl _)
  obtain ⟨T5, X5, q5, st5⟩ := X3.sget hexec hown (wk W (.fieldLink "java/lang/String" 38 "java/lang/String" "COMPACT_STRINGS" "Z")) s1 (fun _ _ h => by rw [hh3]; exact h) (g := (mkF m 27 #[.val (.ref a), .val (.ref b), .val (.int (Int32.ofNat o)), .val (.int (Int32.ofNat len)), .val .null, .unset] [])) rfl (hb hbytes d27)
  have hh5 := q5.trans hh3
  have c6 : Steps p.tables e below (s₁.setTop (entryFrame m #[.ref a, .ref b, .int (Int32.ofNat o), .int (Int32.ofNat len), .null] 6)) (T5.setTop (mkF m 30 #[.val (.ref a), .val (.ref b), .val (.int (Int32.ofNat o)), .val (.int (Int32.ofNat len)), .val .null, .unset] [.int z])) := c4.trans (st5 _ (Steps.refl _))
  have c7 : Steps p.tables e below (s₁.setTop (entryFrame m #[.ref a, .ref b, .int (Int32.ofNat o), .int (Int32.ofNat len), .null] 6)) (T5.setTop (mkF m 36 #[.val (.ref a), .val (.ref b), .val (.int (Int32.ofNat o)), .val (.int (Int32.ofNat len)), .val .null, .unset] [.int (Int32.ofNat len), .int (Int32.ofNat o), .ref b])) := c6.trans (by
    refine XS.ifNo X5.here hexec rfl (hb hbytes d30) rfl (i0_eq_f hz) ?_
    refine XS.aloadN X5.here hexec rfl (hb hbytes d33) rfl rfl ?_
    refine XS.iloadN X5.here hexec rfl (hb hbytes d34) rfl ?_
    refine XS.iloadN X5.here hexec rfl (hb hbytes d35) rfl ?_
    exact Steps.refl _)
  obtain ⟨v8, T8, X8, E8, g8⟩ := X5.callS hexec (Cmp3.law l b A o len) hown (wks W (staticW "java/lang/String" 177 Cmp3.yN)) (wk W Cmp3.tab) (W := 0) (Nat.le_of_ble_eq_true rfl) (Nat.le_of_ble_eq_true rfl) (Nat.le_refl _) (by show 0 + len ≤ len; omega) (g := (mkF m 36 #[.val (.ref a), .val (.ref b), .val (.int (Int32.ofNat o)), .val (.int (Int32.ofNat len)), .val .null, .unset] [.int (Int32.ofNat len), .int (Int32.ofNat o), .ref b])) rfl (by rw [hml]; rfl) c7 (argsL := [.ref b, .int (Int32.ofNat o), .int (Int32.ofNat len)]) (rest := []) rfl rfl (by show 2 * 0 + 0 ≤ _; decide) (hb hbytes d36) (⟨rfl, hA.mv X5.warmed.alike hh5, l1, l2, hp⟩)
  obtain ⟨e8, z8⟩ := E8
  obtain ⟨rfl, N, n1, n2, n3, n4, n5, n6⟩ := NewArr.mv _ T5 s _ _ hh5.symm (Vm.Alike.refl _) rfl e8
  rw [hh5] at z8
  have hB1 := hB.keep X8.warmed.alike (n6 _ _ hB.1)
  have hne : s.heap.size ≠ a := (Nat.ne_of_lt (Array.getElem?_eq_some_iff.mp hB.1).1).symm
  have c9 : Steps p.tables e below (s₁.setTop (entryFrame m #[.ref a, .ref b, .int (Int32.ofNat o), .int (Int32.ofNat len), .null] 6)) (T8.setTop (mkF m 39 #[.val (.ref a), .val (.ref b), .val (.int (Int32.ofNat o)), .val (.int (Int32.ofNat len)), .val .null, .unset] [.ref s.heap.size])) := g8
  have c10 : Steps p.tables e below (s₁.setTop (entryFrame m #[.ref a, .ref b, .int (Int32.ofNat o), .int (Int32.ofNat len), .null] 6)) (T8.setTop (mkF m 45 #[.val (.ref a), .val (.ref b), .val (.int (Int32.ofNat o)), .val (.int (Int32.ofNat len)), .val .null, .val (.ref s.heap.size)] [.int (Int32.ofNat N.slots.size), .ref s.heap.size, .ref a])) := by
    have hc : Steps p.tables e below (s₁.setTop (entryFrame m #[.ref a, .ref b, .int (Int32.ofNat o), .int (Int32.ofNat len), .null] 6)) (T8.setTop (mkF m 45 #[.val (.ref a), .val (.ref b), .val (.int (Int32.ofNat o)), .val (.int (Int32.ofNat len)), .val .null, .val (.ref s.heap.size)] [.int (Int32.ofNat len), .ref s.heap.size, .ref a])) := c9.trans (by
      refine XS.astore X8.here hexec rfl (hb hbytes d39) rfl rfl rfl ?_
      refine XS.aloadN X8.here hexec rfl (hb hbytes d41) rfl rfl ?_
      refine XS.aload X8.here hexec rfl (hb hbytes d42) rfl rfl ?_
      refine XS.iloadN X8.here hexec rfl (hb hbytes d44) rfl ?_
      exact Steps.refl _)
    rw [n4]; exact hc
  obtain ⟨v11, T11, X11, E11, g11⟩ := X8.callS hexec (CodL.law l s.heap.size N) hown (wks W (staticW "java/lang/String" 47 CodL.yN)) (wk W CodL.tab) (W := 1) (Nat.le_of_ble_eq_true rfl) (Nat.le_of_ble_eq_true rfl) (Nat.le_refl _) (by show 0 + len + 0 ≤ len; omega) (g := (mkF m 45 #[.val (.ref a), .val (.ref b), .val (.int (Int32.ofNat o)), .val (.int (Int32.ofNat len)), .val .null, .val (.ref s.heap.size)] [.int (Int32.ofNat N.slots.size), .ref s.heap.size, .ref a])) rfl (by rw [hml]; rfl) c10 (argsL := [.ref s.heap.size, .int (Int32.ofNat N.slots.size)]) (rest := [.ref a]) rfl rfl (by show 2 * 0 + (1 + 0) ≤ _; decide) (hb hbytes d45) (⟨rfl, n1⟩)
  obtain ⟨rfl, q11⟩ := E11
  have hB11 := hB1.mv (X8.warmed.alike.symm.trans X11.warmed.alike) q11
  have c12 : Steps p.tables e below (s₁.setTop (entryFrame m #[.ref a, .ref b, .int (Int32.ofNat o), .int (Int32.ofNat len), .null] 6)) (T11.setTop (mkF m 48 #[.val (.ref a), .val (.ref b), .val (.int (Int32.ofNat o)), .val (.int (Int32.ofNat len)), .val .null, .val (.ref s.heap.size)] [.int 0, .ref a])) := g11
  obtain ⟨T13, X13, p13, bl13, sl13, st13⟩ := X11.finit hexec hown (wk W (.fieldLink "java/lang/String" 15 "java/lang/String" "coder" "B")) (Or.inr ⟨_, (wk W (.laysFinal "java/lang/String" "java/lang/String" "coder" "B"))⟩) (Or.inl ⟨rfl, hnm⟩) f2 (Or.inl rfl) hB11 (t := .byte) (by decide +kernel) rfl (g := (mkF m 48 #[.val (.ref a), .val (.ref b), .val (.int (Int32.ofNat o)), .val (.int (Int32.ofNat len)), .val .null, .val (.ref s.heap.size)] [.int 0, .ref a])) rfl (rest := []) rfl (hb hbytes d48)
  have c14 : Steps p.tables e below (s₁.setTop (entryFrame m #[.ref a, .ref b, .int (Int32.ofNat o), .int (Int32.ofNat len), .null] 6)) (T13.setTop (mkF m 54 #[.val (.ref a), .val (.ref b), .val (.int (Int32.ofNat o)), .val (.int (Int32.ofNat len)), .val .null, .val (.ref s.heap.size)] [.ref s.heap.size, .ref a])) := (c12.trans (st13 _ (Steps.refl _))).trans (by
    refine XS.aloadN X13.here hexec rfl (hb hbytes d51) rfl rfl ?_
    refine XS.aload X13.here hexec rfl (hb hbytes d52) rfl rfl ?_
    exact Steps.refl _)
  obtain ⟨T15, X15, p15, bl15, sl15, st15⟩ := X13.finit hexec hown (wk W (.fieldLink "java/lang/String" 9 "java/lang/String" "value" "[B")) (Or.inr ⟨_, (wk W (.laysFinal "java/lang/String" "java/lang/String" "value" "[B"))⟩) (Or.inl ⟨rfl, hnm⟩) f1 (Or.inl rfl) bl13 (t := (.array .byte)) (by decide +kernel) rfl (g := (mkF m 54 #[.val (.ref a), .val (.ref b), .val (.int (Int32.ofNat o)), .val (.int (Int32.ofNat len)), .val .null, .val (.ref s.heap.size)] [.ref s.heap.size, .ref a])) rfl (rest := []) rfl (hb hbytes d54)
  have c16 : Steps p.tables e below (s₁.setTop (entryFrame m #[.ref a, .ref b, .int (Int32.ofNat o), .int (Int32.ofNat len), .null] 6)) (T15.setTop (mkF m 57 #[.val (.ref a), .val (.ref b), .val (.int (Int32.ofNat o)), .val (.int (Int32.ofNat len)), .val .null, .val (.ref s.heap.size)] [])) := c14.trans (st15 _ (Steps.refl _))
  have ap := apart (Or.inr ⟨_, (wk W (.laysFinal "java/lang/String" "java/lang/String" "value" "[B"))⟩) (Or.inr ⟨_, (wk W (.laysFinal "java/lang/String" "java/lang/String" "coder" "B"))⟩) f1 f2 (t₁ := .array .byte) (t₂ := .byte) (by decide +kernel) (by decide +kernel) (by decide)
  have al := X8.warmed.alike.symm.trans X15.warmed.alike
  have n7 : T11.heap[s.heap.size]? = some N := by rw [q11]; exact n1.1
  exact ⟨T15, none, _, _, _, X15, by simp, rfl, by omega, (fun _ => rfl), ⟨rfl, _, N, bl15, ((Same.refl D _).set _ (by simp)).set _ (by simp), sl15, (Cell.slots_setSlot_ne _ ap).trans sl13, n1.keep al (p15.other hne (p13.other hne n7)), n2, by rw [al.findClass]; exact n3, n4, n5, fun y c h1 h2 => p15.other h1 (p13.other h1 (by rw [q11]; exact n6 y c h2)), by rw [p15.2.2, p13.2.2, q11]; exact z8⟩, fun fs hl => c16.trans (X15.returnOut hexec hret (hb hbytes d57) hl)⟩
end New4
namespace New1
def yN : MethodName := ⟨"java/lang/String", "<init>", "([C)V"⟩
abbrev yB : ByteArray := jdk_42_method_3_code
theorem d0 : decode yB 0 = .ok (.aload_n 0, 1) := by decide +kernel
theorem d1 : decode yB 1 = .ok (.aload_n 1, 1) := by decide +kernel
theorem d2 : decode yB 2 = .ok (.iconst 0, 1) := by decide +kernel
theorem d3 : decode yB 3 = .ok (.aload_n 1, 1) := by decide +kernel
theorem d4 : decode yB 4 = .ok (.arraylength, 1) := by decide +kernel
theorem d5 : decode yB 5 = .ok (.aconst_null, 1) := by decide +kernel
theorem d6 : decode yB 6 = .ok (.invokespecial 27, 3) := by decide +kernel
theorem d9 : decode yB 9 = .ok (.return_, 1) := by decide +kernel
def site : List Cond := [New4.tab] ++ initW "java/lang/String" 27 New4.yN
def tab : Cond := tabOf yN yB 2 none site
def P (a : Addr) (D : Cell) (fV fC : Field) (b : Addr) (A : Cell) (z : Int32) (args : Array Value) (s : State) : Prop := args = #[.ref a, .ref b] ∧ Blank "java/lang/String" a D s ∧ Found "java/lang/String" "value" "[B" fV s ∧ Found "java/lang/String" "coder" "B" fC s ∧ Ch b A s ∧ StaticIs s "java/lang/String" "COMPACT_STRINGS" "Z" (.int z) ∧ ¬ z = 0 ∧ 0 < A.slots.size ∧ A.slots.size ≤ 536870912 ∧ ∀ i, i < A.slots.size → ¬ 255 < cv A i
def E (a : Addr) (D : Cell) (fV fC : Field) (A : Cell) (r : Option Value) (s u : State) : Prop := Got a D fV fC A 0 A.slots.size r s u
/-- new String(chars), not empty, no char above 255: a Latin-1 String of their low bytes -/
theorem law (l : Launch) (a : Addr) (D : Cell) (fV fC : Field) (b : Addr) (A : Cell) (z : Int32) : Law l yN 2 1 3 52 yB 2 none site (P a D fV fC b A z) (E a D fV fC A) [⟨a, fC.slot⟩, ⟨a, fV.slot⟩] 1 A.slots.size := by
  refine Law.of_walk (plainFor_of_name (by decide +kernel)) (by decide +kernel) (by decide +kernel) (by decide) (fun _ _ h => by rw [h.1]; rfl) (fun _ U U' hal hh h => ⟨h.1, h.2.1.mv hal hh, h.2.2.1.al hal, h.2.2.2.1.al hal, h.2.2.2.2.1.mv hal hh, h.2.2.2.2.2.1.there hal hh, h.2.2.2.2.2.2⟩) (fun r U U' V V' h1 hal h2 h => Got.mv r U U' V V' h1 hal h2 h) ?_
  intro p e s m args below meth c s₁ X0 hexec hbytes hml hret hlk hnm hown hh0 W hP
  obtain ⟨rfl, hB, f1, f2, hA, s1, hz, l0, l2, hp⟩ := hP
  have c1 : Steps p.tables e below (s₁.setTop (entryFrame m #[.ref a, .ref b] 2)) (s₁.setTop (mkF m 0 #[.val (.ref a), .val (.ref b)] [])) := entry rfl
  have c2 : Steps p.tables e below (s₁.setTop (entryFrame m #[.ref a, .ref b] 2)) (s₁.setTop (mkF m 6 #[.val (.ref a), .val (.ref b)] [.null, .int (Int32.ofNat A.slots.size), .int 0, .ref b, .ref a])) := c1.trans (by
    refine XS.aloadN X0.here hexec rfl (hb hbytes d0) rfl rfl ?_
    refine XS.aloadN X0.here hexec rfl (hb hbytes d1) rfl rfl ?_
    refine iconstV X0.here hexec rfl 0 (hb hbytes d2) (by decide) ?_
    refine XS.aloadN X0.here hexec rfl (hb hbytes d3) rfl rfl ?_
    refine X0.alen hexec (hA.1.mv X0.warmed.alike hh0) rfl rfl (hb hbytes d4) ?_
    refine XS.aconstNull X0.here hexec rfl (hb hbytes d5) ?_
    exact Steps.refl _)
  obtain ⟨v3, T3, X3, E3, g3⟩ := X0.callN hexec (New4.law l a D fV fC b A z 0 A.slots.size) rfl hown (wks W (initW "java/lang/String" 27 New4.yN)) (W New4.tab (by simp only [site, List.mem_cons, List.mem_append, true_or, or_true])) (W := 0) (Nat.le_of_ble_eq_true rfl) (Nat.le_of_ble_eq_true rfl) (Nat.le_refl _) (by show 0 + A.slots.size ≤ A.slots.size; omega) (g := (mkF m 6 #[.val (.ref a), .val (.ref b)] [.null, .int (Int32.ofNat A.slots.size), .int (Int32.ofNat 0), .ref b, .ref a])) rfl (by rw [hml]; rfl) c2 (argsL := [.ref b, .int (Int32.ofNat 0), .int (Int32.ofNat A.slots.size), .null]) (rest := []) rfl rfl (by show 2 * 0 + 0 ≤ _; decide) (hb hbytes d6) (⟨rfl, hB.mv X0.warmed.alike hh0, f1.al X0.warmed.alike, f2.al X0.warmed.alike, hA.mv X0.warmed.alike hh0, s1.there X0.warmed.alike hh0, hz, l0, by omega, l2, fun i hi => by rw [Nat.zero_add]; exact hp i hi⟩)
  have e0 := Got.mv _ s₁ s _ _ hh0.symm (Vm.Alike.refl _) rfl E3
  obtain rfl := e0.1
  have c4 : Steps p.tables e below (s₁.setTop (entryFrame m #[.ref a, .ref b] 2)) (T3.setTop (mkF m 9 #[.val (.ref a), .val (.ref b)] [])) := g3
  exact ⟨T3, none, _, _, _, X3, by simp, rfl, by omega, (fun _ => rfl), e0, fun fs hl => c4.trans (X3.returnOut hexec hret (hb hbytes d9) hl)⟩
theorem pays {l : Launch} {R : Room} {p : Program} {e : Env} {below : List Frame} {s : State} {sargs : Array Value} {len W : Nat} (a : Addr) (D : Cell) (fV fC : Field) (b : Addr) (A : Cell) (z : Int32) (htab : tab.before sargs s = true) (hfr : 4 ≤ R.frames) (hlo : W + 65 ≤ R.locals) :
    Back l R p e below s sargs yN len W (fun A₁ a₁ => A₁.cells + 1 ≤ R.cells ∧ A₁.slots + A.slots.size ≤ R.slots ∧ P a D fV fC b A z a₁ A₁.U) (fun A₁ _ v₁ B₁ => E a D fV fC A v₁ A₁.U B₁.U ∧ B₁.locs = A₁.locs ++ [⟨a, fC.slot⟩, ⟨a, fV.slot⟩] ∧ B₁.cells = A₁.cells + 1 ∧ B₁.slots = A₁.slots + A.slots.size) :=
  (law l a D fV fC b A z).pays htab hfr (by omega)
end New1
/-- the byte, read back as charAt reads it, is the char -/
theorem lo8_mask {x : Int32} (h0 : ¬ x < 0) (h1 : ¬ 255 < x) : lo8 x &&& 255 = x := by
  have t : ∀ k : Fin 256, lo8 (Int32.ofNat k.val) &&& 255 = Int32.ofNat k.val := by decide +kernel
  rw [Int32.lt_iff_toInt_lt] at h0 h1
  have e0 : (0 : Int32).toInt = 0 := rfl
  have e1 : (255 : Int32).toInt = 255 := rfl
  obtain ⟨k, hk⟩ : ∃ k : Nat, x.toInt = k := ⟨x.toInt.toNat, by omega⟩
  have hx : x = Int32.ofNat k := Int32.toInt_inj.mp (by rw [hk, Int32.toInt_ofNat_small (by omega)])
  rw [hx]
  exact t ⟨k, by omega⟩
end StrChars
namespace StrChars.Road
open Jvm Sem ClassFile Op Lib Jvm.Stand Jvm.Free Jvm.Free.XT
open Jvm.Lib.Cold (StaticIs)
abbrev ST : String := "java/lang/String"
/-- every table word that New1's law asks, flat -/
abbrev words : List Jvm.Cond := [.code New1.yN New1.yB 2 none, .initialized ST, .methodLink ST 27 New4.yN, .instanceMethod New4.yN,
  .code New4.yN New4.yB 6 none, .fieldLink ST 38 ST "COMPACT_STRINGS" "Z", .laysFinal ST ST "value" "[B", .fieldLink ST 9 ST "value" "[B", .laysFinal ST ST "coder" "B", .fieldLink ST 15 ST "coder" "B",
  .methodLink ST 1 Lib.objectInit, .instanceMethod Lib.objectInit, .code Lib.objectInit ⟨#[0xb1]⟩ 1 none, .methodLink ST 177 Cmp3.yN, .static Cmp3.yN, .methodLink ST 47 CodL.yN, .static CodL.yN,
  .code Cmp3.yN Cmp3.yB 6 (some (.array .byte)), .initialized U16, .arrayClass .byte, .methodLink U16 115 Cmp5.yN, .static Cmp5.yN, .code Cmp5.yN Cmp5.yB 7 (some .int), .code CodL.yN CodL.yB 2 (some .byte)]
theorem tab_of {a : Array Value} {s : State} (h : ∀ w ∈ words, w.before a s = true) : New1.tab.before a s = true := by
  have h5 : Cmp5.tab.before a s = true := unparts (wk h (.code Cmp5.yN Cmp5.yB 7 (some .int))) (wks h (.initialized Cmp5.yN.cls :: Cmp5.site))
  have hc : CodL.tab.before a s = true := unparts (wk h (.code CodL.yN CodL.yB 2 (some .byte))) (wks h (.initialized CodL.yN.cls :: CodL.site))
  have q5 : ∀ w ∈ Cmp5.tab :: words, w.before a s = true := fun w hw => (List.mem_cons.mp hw).elim (fun e => e ▸ h5) (h w)
  have h3 : Cmp3.tab.before a s = true := unparts (wk q5 (.code Cmp3.yN Cmp3.yB 6 (some (.array .byte)))) (wks q5 (.initialized Cmp3.yN.cls :: Cmp3.site))
  have q3 : ∀ w ∈ Cmp3.tab :: CodL.tab :: words, w.before a s = true := fun w hw => (List.mem_cons.mp hw).elim (fun e => e ▸ h3) fun hw => (List.mem_cons.mp hw).elim (fun e => e ▸ hc) (h w)
  have h4 : New4.tab.before a s = true := unparts (wk q3 (.code New4.yN New4.yB 6 none)) (wks q3 (.initialized New4.yN.cls :: New4.site))
  have q4 : ∀ w ∈ New4.tab :: words, w.before a s = true := fun w hw => (List.mem_cons.mp hw).elim (fun e => e ▸ h4) (h w)
  exact unparts (wk q4 (.code New1.yN New1.yB 2 none)) (wks q4 (.initialized New1.yN.cls :: New1.site))
/-- the words ride from the start Z to the walk's own state -/
theorem moved {Z s : State} {a0 args : Array Value} (hZ : Z.Warmed39 s.vm) (hw : ∀ d ∈ words, d.before a0 Z = true) : ∀ d ∈ words, d.before args s = true := fun d hd => by
  have q := hw d hd
  have t : ∀ d ∈ words, d = .arrayClass .byte ∨ (d.onTables && d.keepsFace) = true := by decide +kernel
  rcases t d hd with rfl | t
  · exact RoadKit.mvA hZ q
  · exact RoadKit.mv hZ q t
/-- WHAT COMES BACK, over the tables of the start Z: h the heap at the call, h' behind it -/
def Q (Z : State) (x : Addr) (A : Cell) (h : Heap) (v : Option Value) (h' : Heap) (L : List Loc) : Prop := v = none ∧ (∀ y ∈ L, y.base = x) ∧ RoadKit.Keep h h' [x] ∧ h'.size = h.size + 1 ∧ RoadKit.Exa Z h' x ST ∧ RoadKit.Fld Z h' x ST "value" "[B" (.ref h.size) ∧ RoadKit.Fld Z h' x ST "coder" "B" (.int 0) ∧
  (∃ V : Cell, RoadKit.Arr Z h' h.size V .byte ∧ V.vm = .none ∧ Z.vm.findClass "[B" = some V.cls ∧ V.slots.size = A.slots.size ∧ ∀ j, j < A.slots.size → V.slots[j]? = some (.int (lo8 (cv A j)))) ∧
  ∀ (O n d : String) (w : Value), RoadKit.Fld Z h x O n d w → RoadKit.slotOf Z O n d ≠ RoadKit.slotOf Z ST "value" "[B" → RoadKit.slotOf Z O n d ≠ RoadKit.slotOf Z ST "coder" "B" → RoadKit.Fld Z h' x O n d w
/-- **new String(chars) AT A CALL, IN THE ROAD'S FORM**: for specialBack behind newO: x the fresh String, b the char[] with the cell A -/
theorem back {p : Program} {l : Launch} {e : Env} {R : Room} {s : State} {args : Array Value} {below : List Frame} {len W : Nat} {Z : State} {a0 : Array Value} {h : Heap} (hZ : Z.Warmed39 s.vm) (hw : ∀ d ∈ words, d.before a0 Z = true) {kI : Nat} (wi : (Jvm.Cond.instantiable ST kI).before a0 Z = true)
    {x b : Addr} {A : Cell} {z : Int32} {v0 c0 : Value} (E : RoadKit.Exa Z h x ST) (V : RoadKit.Fld Z h x ST "value" "[B" v0) (C : RoadKit.Fld Z h x ST "coder" "B" c0) (K : RoadKit.Arr Z h b A .char) (hty : Typed .char A) (S : RoadKit.Sta Z h ST "COMPACT_STRINGS" "Z" (.int z)) (hz : ¬ z = 0)
    (l0 : 0 < A.slots.size) (l2 : A.slots.size ≤ 536870912) (hp : ∀ i, i < A.slots.size → ¬ 255 < cv A i) (hfr : 4 ≤ R.frames) (hlo : W + 65 ≤ R.locals) :
    Back l R p e below s args New1.yN len W (fun P a => a = #[.ref x, .ref b] ∧ P.U.heap = h ∧ P.cells + 1 ≤ R.cells ∧ P.slots + A.slots.size ≤ R.slots)
      (fun P _ v B => ∃ L, Q Z x A h v B.U.heap L ∧ B.locs = P.locs ++ L ∧ B.cells = P.cells + 1 ∧ B.slots = P.slots + A.slots.size) := by
  intro m meth c P g ig mk a X hg hsize hdg hW hn hp'
  obtain ⟨rfl, rfl, r1, r2⟩ := hp'
  have al : Z.vm.Alike P.U.vm := hZ.alike.trans X.warmed.alike
  obtain ⟨D, cfV, kV, iV, fV, hD, gV, stV, knV, obV, asV, slV⟩ := id V
  obtain ⟨D', cfC, kC, iC, fC, hD', gC, stC, -, -, asC, slC⟩ := id C
  cases hD.symm.trans hD'
  obtain ⟨D2, kD, e1, e2, e3, e4, e5⟩ := id E
  cases hD.symm.trans e1
  obtain ⟨c2, k2, i1, i2, i3, -⟩ := Cond.instantiable_spec wi
  cases e2.symm.trans i1
  cases e3.symm.trans i2
  obtain ⟨kU, u1, u2⟩ := al.2.2 _ _ e3
  have hB : Blank ST x D P.U := ⟨hD, ⟨knV, fun q hq => by rw [hq] at obV; cases obV⟩, by rw [al.findClass]; exact e2, kU, u1, by rw [u2]; exact i3, by rw [u2]; exact e5 i3⟩
  have F1 : Found ST "value" "[B" fV P.U := ⟨SBG.found_only al ⟨cfV, kV, iV, gV⟩, stV⟩
  have F2 : Found ST "coder" "B" fC P.U := ⟨SBG.found_only al ⟨cfC, kC, iC, gC⟩, stC⟩
  have hA : Ch b A P.U := ⟨⟨K.1, State.isArrayOf_alike al K.2.1, K.2.2, by omega⟩, hty⟩
  have hS : StaticIs P.U ST "COMPACT_STRINGS" "Z" (.int z) := by
    obtain ⟨cfS, iS, kS, fS, st, cS, t1, t2, t3, t4, t5, t6, t7⟩ := S
    exact StaticIs.there (s := { Z with heap := P.U.heap }) ⟨cfS, iS, kS, fS, st, cS, t1, t2, t3, t4, t5, (fun q => by rw [q] at t6; cases t6), t7⟩ al rfl
  obtain ⟨v, B, X', ⟨⟨hv, E', V', q1, q2, q3, q4, q5, q6, q7, q8, q9, q10, q11⟩, hl, hc, hs⟩, st⟩ := New1.pays x D fV fC b A z (tab_of (moved hZ hw)) hfr hlo m meth c P g ig mk _ X hg hsize hdg hW hn ⟨r1, r2, rfl, hB, F1, F2, hA, hS, hz, l0, l2, hp⟩
  have al' : Z.vm.Alike B.U.vm := hZ.alike.trans X'.warmed.alike
  have hsz : E'.slots.size = D.slots.size := by
    obtain ⟨-, -, -, kB, w1, w2, w3⟩ := q1
    obtain ⟨kB', y1, y2⟩ := al'.2.2 _ _ e3
    rw [q2.2.1] at w1
    cases w1.symm.trans y1
    rw [w3, e5 i3, y2]
  refine ⟨v, B, X', ⟨_, ⟨hv, ?_, ⟨by omega, fun y cy hy hn' => q10 y cy (by simpa using hn') hy, fun y cy hy => ?_⟩, q11, ⟨E', _, q1.1, by rw [q2.2.1]; exact e2, by rw [q2.2.1]; exact e3, by rw [q2.1]; exact obV, fun _ => by rw [hsz]; exact e5 i3⟩,
    ⟨E', cfV, kV, iV, fV, q1.1, gV, stV, by rw [q2.1]; exact knV, by rw [q2.1]; exact obV, by rw [q2.2.1]; exact asV, q3⟩, ⟨E', cfC, kC, iC, fC, q1.1, gC, stC, by rw [q2.1]; exact knV, by rw [q2.1]; exact obV, by rw [q2.2.1]; exact asC, q4⟩,
    ⟨V', ⟨q5.1, State.isArrayOf_alike al'.symm q5.2.1, q5.2.2.1⟩, q6, by rw [← al'.findClass]; exact q7, q8, fun j hj => by have := q9 j hj; rwa [Nat.zero_add] at this⟩, fun O n d w F n1 n2 => ?_⟩, hl, hc, hs⟩, st⟩
  · intro y hy
    simp only [List.mem_cons, List.not_mem_nil, or_false] at hy
    rcases hy with rfl | rfl <;> rfl
  · by_cases q : y = x
    · subst q
      cases hD.symm.trans hy
      exact ⟨E', q1.1, q2.2.1, q2.1, hsz⟩
    · exact ⟨cy, q10 y cy q hy, rfl, rfl, rfl⟩
  · obtain ⟨D3, cf, k, i, f, g1, g2, g3, g4, g5, g6, g7⟩ := F
    cases hD.symm.trans g1
    simp only [RoadKit.slotOf, g2, gV, gC, Option.map_some, Option.getD_some] at n1 n2
    exact ⟨E', cf, k, i, f, q1.1, g2, g3, by rw [q2.1]; exact g4, by rw [q2.1]; exact g5, by rw [q2.2.1]; exact g6, by rw [q2.2.2 f.slot (by simp [n1, n2])]; exact g7⟩
end StrChars.Road
namespace StrChars.Road
open Jvm Sem ClassFile Op Lib Jvm.Stand Jvm.Free Jvm.Free.XT
/-- WHAT COMES BACK, the byte[] as a list of values -/
def QA (Z : State) (x : Addr) (zn : Int32) (cs : List Int32) (h : Heap) (v : Option Value) (h' : Heap) (L : List Loc) : Prop := v = none ∧ (∀ y ∈ L, y.base = x) ∧ RoadKit.Keep h h' [x] ∧ h'.size = h.size + 1 ∧ RoadKit.Exa Z h' x ST ∧ RoadKit.Fld Z h' x ST "value" "[B" (.ref h.size) ∧ RoadKit.Fld Z h' x ST "coder" "B" (.int 0) ∧
  (∃ kb, Z.vm.findClass "[B" = some kb ∧ RoadKit.Arv Z h' h.size kb .byte zn (cs.map fun c => .int (lo8 c)) (.int 0)) ∧
  ∀ (O n d : String) (w : Value), RoadKit.Fld Z h x O n d w → RoadKit.slotOf Z O n d ≠ RoadKit.slotOf Z ST "value" "[B" → RoadKit.slotOf Z O n d ≠ RoadKit.slotOf Z ST "coder" "B" → RoadKit.Fld Z h' x O n d w
/-- **new String(chars) AT A CALL, THE ARRAYS AS LISTS**: the char[] at b holds cs, not empty, no char above 255 -/
theorem backArv {p : Program} {l : Launch} {e : Env} {R : Room} {s : State} {args : Array Value} {below : List Frame} {len W : Nat} {Z : State} {a0 : Array Value} {h : Heap} (hZ : Z.Warmed39 s.vm) (hw : ∀ d ∈ words, d.before a0 Z = true) {kI : Nat} (wi : (Jvm.Cond.instantiable ST kI).before a0 Z = true)
    {x b : Addr} {k : ClassId} {zn z : Int32} {cs : List Int32} {dv v0 c0 : Value} (E : RoadKit.Exa Z h x ST) (V : RoadKit.Fld Z h x ST "value" "[B" v0) (C : RoadKit.Fld Z h x ST "coder" "B" c0) (K : RoadKit.Arv Z h b k .char zn (cs.map Value.int) dv) (S : RoadKit.Sta Z h ST "COMPACT_STRINGS" "Z" (.int z)) (hz : ¬ z = 0)
    (hlen : zn.toNatClampNeg = cs.length) (h0 : 0 < cs.length) (hbig : cs.length ≤ 536870912) (hall : ∀ c ∈ cs, ¬ 255 < c) (hfr : 4 ≤ R.frames) (hlo : W + 65 ≤ R.locals) :
    Back l R p e below s args New1.yN len W (fun P a => a = #[.ref x, .ref b] ∧ P.U.heap = h ∧ P.cells + 1 ≤ R.cells ∧ P.slots + cs.length ≤ R.slots)
      (fun P _ v B => ∃ L, QA Z x zn cs h v B.U.heap L ∧ B.locs = P.locs ++ L ∧ B.cells = P.cells + 1 ∧ B.slots = P.slots + cs.length) := by
  obtain ⟨A, K1, K2, K3, K4, K5, K6⟩ := K
  have e : A.slots.size = cs.length := K3.trans hlen
  have hat : ∀ (i : Nat) (hi : i < cs.length), A.slots[i]? = some (.int cs[i]) := fun i hi => by rw [K5 i (by omega)]; simp [List.getD_eq_getElem?_getD, hi]
  have hcv : ∀ (i : Nat) (hi : i < cs.length), cv A i = cs[i] := fun i hi => by unfold cv; rw [hat i hi]
  have hty : Typed .char A := fun i v hv => by
    have hi : i < A.slots.size := (Array.getElem?_eq_some_iff.mp hv).1
    have q := K5 i hi
    rw [hv] at q
    rw [Option.some.inj q]
    exact K6 i hi
  refine Back.mono (back hZ hw wi E V C K1 hty S hz (by omega) (by omega) (fun i hi => by rw [hcv i (by omega)]; exact hall _ (List.getElem_mem _)) hfr hlo) (fun P a hp => ⟨hp.1, hp.2.1, hp.2.2.1, by rw [e]; exact hp.2.2.2⟩) (fun P a v B hp hq => ?_)
  obtain ⟨L, ⟨q1, q2, q3, q4, q5, q6, q7, ⟨V', v1, v2, v3, v4, v5⟩, q9⟩, hl, hc, hs⟩ := hq
  refine ⟨L, ⟨q1, q2, q3, q4, q5, q6, q7, ⟨V'.cls, v3, V', v1, rfl, by rw [v4, e, hlen], K4, fun i hi => ?_, fun i hi => ?_⟩, q9⟩, hl, hc, by rw [hs, e]⟩
  · have hi' : i < cs.length := by omega
    rw [v5 i (by omega), hcv i hi']; simp [List.getD_eq_getElem?_getD, hi']
  · have hi' : i < cs.length := by omega
    simp only [List.getD_eq_getElem?_getD, List.getElem?_map, List.getElem?_eq_getElem hi', Option.map_some, Option.getD_some]
    exact fits_lo8 _
end StrChars.Road
namespace StrChars.Road
open Jvm Sem ClassFile Op Lib Jvm.Stand Jvm.Free Jvm.Free.XT
/-- WHAT COMES BACK, in the writer's own shape -/
def QV (Z : State) (x : Addr) (N : Int32) (bs : List Int32) (h : Heap) (n0 : Nat) (v : Option Value) (h' : Heap) (L : List Loc) : Prop := v = none ∧ RoadKit.Fr n0 L ∧ RoadKit.Keep h h' [x] ∧ RoadKit.Exa Z h' x ST ∧ RoadKit.Fld Z h' x ST "coder" "B" (.int 0) ∧
  ∃ (t : Addr) (kb : ClassId), n0 ≤ t ∧ h.size ≤ t ∧ ¬ t = x ∧ RoadKit.Fld Z h' x ST "value" "[B" (.ref t) ∧ RoadKit.Arv Z h' t kb .byte N (bs.map Value.int) (.int 0)
/-- **new String(chars) AT A CALL, FOR THE WRITER**: a char[] of n known ints, each 0 to 255 -/
theorem backV {p : Program} {l : Launch} {e : Env} {R : Room} {s : State} {args : Array Value} {below : List Frame} {len W : Nat} {Z : State} {a0 : Array Value} {h : Heap} (hZ : Z.Warmed39 s.vm) (hw : ∀ d ∈ words, d.before a0 Z = true) {kI : Nat} (wi : (Jvm.Cond.instantiable ST kI).before a0 Z = true)
    {x b : Addr} {kC : ClassId} {cs bs : List Int32} {d v0 c0 : Value} {z N : Int32} {n n0 : Nat} (hx0 : n0 ≤ x) (hh0 : n0 ≤ h.size) (E : RoadKit.Exa Z h x ST) (V : RoadKit.Fld Z h x ST "value" "[B" v0) (C : RoadKit.Fld Z h x ST "coder" "B" c0) (K : RoadKit.Arv Z h b kC .char N (cs.map Value.int) d) (S : RoadKit.Sta Z h ST "COMPACT_STRINGS" "Z" (.int z)) (hz : ¬ z = 0)
    (hn : cs.length = n) (hN : N = Int32.ofNat n) (l0 : 0 < n) (l2 : n ≤ 4000) (hp : ∀ c ∈ cs, ¬ c < 0 ∧ ¬ (255 : Int32) < c) (hb : bs = cs.map (fun c => c.toInt8.toInt32)) (hfr : 4 ≤ R.frames) (hlo : W + 65 ≤ R.locals) :
    Back l R p e below s args (⟨"java/lang/String", "<init>", "([C)V"⟩ : MethodName) len W (fun P a => a = #[.ref x, .ref b] ∧ P.U.heap = h ∧ P.cells + 1 ≤ R.cells ∧ P.slots + n ≤ R.slots)
      (fun P _ v B => ∃ L, QV Z x N bs h n0 v B.U.heap L ∧ B.locs = P.locs ++ L ∧ B.cells = P.cells + 1 ∧ B.slots = P.slots + n) := by
  subst hn hN hb
  refine Back.mono (backArv hZ hw wi E V C K S hz (n32 (by omega)) l0 (by omega) (fun c hc => (hp c hc).2) hfr hlo) (fun P a hp => hp) (fun P a v B hp hq => ?_)
  obtain ⟨L, ⟨q1, q2, q3, q4, q5, q6, q7, ⟨kb, v1, v2⟩, q9⟩, hl, hc, hs⟩ := hq
  exact ⟨L, ⟨q1, fun y hy => by rw [q2 y hy]; exact hx0, q3, q5, q7, h.size, kb, hh0, Nat.le_refl _, Nat.ne_of_gt E.lt, q6, by rw [List.map_map]; exact v2⟩, hl, hc, hs⟩
end StrChars.Road
namespace StrChars
open Jvm Sem ClassFile Op Lib Jvm.Stand Jvm.Free.XT Jvm.Free.ALB Jvm.Free.JM Jvm.Free
open Jvm.Lib.Cold (StaticIs)
def hi8 (x : Int32) : Int32 := lo8 (x >>> ((8 : Int32) &&& 31))
/-- what StringUTF16.getChar makes of two bytes -/
def pairCh (u v : Int32) : Int32 := (((u &&& 255) <<< ((0 : Int32) &&& 31)) ||| ((v &&& 255) <<< ((8 : Int32) &&& 31))).toUInt32.toUInt16.toUInt32.toInt32
theorem shr0 (c : Int32) : c >>> ((0 : Int32) &&& 31) = c := by
  have e : ((0 : Int32) &&& 31) = 0 := by decide
  rw [e]
  apply Int32.toBitVec_inj.mp
  rw [Int32.toBitVec_shiftRight]
  have e1 : ((0 : Int32).toBitVec.smod 32) = 0#32 := by decide
  rw [e1, BitVec.sshiftRight_eq']
  exact BitVec.sshiftRight_zero
theorem lo8_and (x : Int32) : (lo8 x &&& 255).toBitVec.toNat = x.toBitVec.toNat % 256 := by
  have h : (lo8 x).toBitVec = (x.toBitVec.signExtend 8).signExtend 32 := by rw [lo8, Int8.toBitVec_toInt32, Int32.toBitVec_toInt8]
  rw [Int32.toBitVec_and, BitVec.toNat_and, h]
  have e : ((x.toBitVec.signExtend 8).signExtend 32).toNat % 256 = x.toBitVec.toNat % 256 := by
    rw [BitVec.toNat_signExtend]
    have hlt := x.toBitVec.isLt
    simp only [BitVec.toNat_setWidth, BitVec.toNat_signExtend]
    split <;> split <;> omega
  rw [← e]
  exact Nat.and_two_pow_sub_one_eq_mod _ 8
theorem pair_says {c : Int32} (h0 : ¬ c < 0) (h1 : ¬ 65535 < c) : pairCh (lo8 c) (hi8 c) = c := by
  rw [Int32.lt_iff_toInt_lt] at h0 h1
  have e0 : (0 : Int32).toInt = 0 := rfl
  have e1 : (65535 : Int32).toInt = 65535 := rfl
  have hc : c.toInt = c.toBitVec.toNat := by
    have := c.toBitVec.isLt
    have e : c.toInt = c.toBitVec.toInt := rfl
    rw [e] at h0 h1
    rw [e]
    rw [BitVec.toInt_eq_toNat_cond] at h0 h1 ⊢
    split at h0 <;> split <;> omega
  have hn : c.toBitVec.toNat < 65536 := by omega
  have a1 := lo8_and c
  have a2 : (hi8 c &&& 255).toBitVec.toNat = c.toBitVec.toNat / 256 := by
    rw [hi8, lo8_and]
    have e : ((8 : Int32) &&& 31) = 8 := by decide
    rw [e, Int32.toBitVec_shiftRight]
    have e2 : ((8 : Int32).toBitVec.smod 32) = 8#32 := by decide
    rw [e2, BitVec.sshiftRight_eq', BitVec.toNat_sshiftRight_of_msb_false (by rw [BitVec.msb_eq_false_iff_two_mul_lt]; omega)]
    show c.toBitVec.toNat >>> 8 % 256 = _
    rw [Nat.shiftRight_eq_div_pow]
    omega
  unfold pairCh
  apply Int32.toBitVec_inj.mp
  apply BitVec.eq_of_toNat_eq
  have f0 : ((0 : Int32) &&& 31) = 0 := by decide
  have f8 : ((8 : Int32) &&& 31) = 8 := by decide
  rw [f0, f8]
  have g : (((lo8 c &&& 255) <<< (0 : Int32)) ||| ((hi8 c &&& 255) <<< (8 : Int32))).toBitVec.toNat = c.toBitVec.toNat := by
    rw [Int32.toBitVec_or, Int32.toBitVec_shiftLeft, Int32.toBitVec_shiftLeft]
    have s0 : ((0 : Int32).toBitVec.smod 32) = 0#32 := by decide
    have s8 : ((8 : Int32).toBitVec.smod 32) = 8#32 := by decide
    rw [s0, s8, BitVec.toNat_or]
    simp only [BitVec.shiftLeft_eq', BitVec.toNat_shiftLeft, a1, a2]
    show (c.toBitVec.toNat % 256) <<< 0 % 2 ^ 32 ||| (c.toBitVec.toNat / 256) <<< 8 % 2 ^ 32 = _
    rw [Nat.shiftLeft_zero, Nat.mod_eq_of_lt (show c.toBitVec.toNat % 256 < 2 ^ 32 by omega), Nat.mod_eq_of_lt (show (c.toBitVec.toNat / 256) <<< 8 < 2 ^ 32 by rw [Nat.shiftLeft_eq]; omega), Nat.or_comm, ← Nat.shiftLeft_add_eq_or_of_lt (by omega), Nat.shiftLeft_eq]
    omega
  show BitVec.toNat (((((lo8 c &&& 255) <<< (0 : Int32)) ||| ((hi8 c &&& 255) <<< (8 : Int32))).toBitVec.setWidth 16).setWidth 32) = _
  rw [BitVec.toNat_setWidth, BitVec.toNat_setWidth, g]
  omega
end StrChars
namespace StrChars
open Jvm Sem ClassFile Op Lib Jvm.Stand Jvm.Free.XT Jvm.Free.ALB Jvm.Free.JM Jvm.Free
open Jvm.Lib.Cold (StaticIs)
theorem shr1 {n : Nat} (h : 2 * n < 2 ^ 31) : Int32.ofNat (2 * n) >>> ((1 : Int32) &&& 31) = Int32.ofNat n := by
  have e : ((1 : Int32) &&& 31) = 1 := by decide
  rw [e]
  apply Int32.toBitVec_inj.mp
  rw [Int32.toBitVec_shiftRight]
  have e1 : ((1 : Int32).toBitVec.smod 32) = 1#32 := by decide
  have hm : (BitVec.ofNat 32 (2 * n)).toNat = 2 * n := by rw [BitVec.toNat_ofNat, Nat.mod_eq_of_lt (by omega)]
  rw [e1, BitVec.sshiftRight_eq']
  apply BitVec.eq_of_toNat_eq
  show ((BitVec.ofNat 32 (2 * n)).sshiftRight 1).toNat = (BitVec.ofNat 32 n).toNat
  rw [BitVec.toNat_sshiftRight_of_msb_false (by rw [BitVec.msb_eq_false_iff_two_mul_lt, hm]; omega), hm, BitVec.toNat_ofNat, Nat.shiftRight_eq_div_pow]
  omega
/-- charAt's cast of a byte read back -/
def chr8 (u : Int32) : Int32 := (u &&& 255).toUInt32.toUInt16.toUInt32.toInt32
theorem chr8_lo8 {c : Int32} (h0 : ¬ c < 0) (h1 : ¬ 255 < c) : chr8 (lo8 c) = c := by
  have t : ∀ k : Fin 256, (Int32.ofNat k.val).toUInt32.toUInt16.toUInt32.toInt32 = Int32.ofNat k.val := by decide +kernel
  unfold chr8
  rw [lo8_mask h0 h1]
  rw [Int32.lt_iff_toInt_lt] at h0 h1
  have e0 : (0 : Int32).toInt = 0 := rfl
  have e1 : (255 : Int32).toInt = 255 := rfl
  obtain ⟨k, hk⟩ : ∃ k : Nat, c.toInt = k := ⟨c.toInt.toNat, by omega⟩
  have hx : c = Int32.ofNat k := Int32.toInt_inj.mp (by rw [hk, Int32.toInt_ofNat_small (by omega)])
  rw [hx]
  exact t ⟨k, by omega⟩
theorem narrow_ch {c : Int32} (h0 : ¬ c < 0) (h1 : ¬ 65535 < c) : narrow .char (.int c) = .int c := by
  have q : narrow .char (.int (pairCh (lo8 c) (hi8 c))) = .int (pairCh (lo8 c) (hi8 c)) := narrow_c _
  rwa [pair_says h0 h1] at q
/-- the array's cell V codes the n chars f 0 .. f (n - 1) by the coder cd, as the JDK does: coder 1 just where some char is above 255 -/
def Cod (cd : Int32) (n : Nat) (f : Nat → Int32) (V : Cell) : Prop := (cd = 0 ∧ V.slots.size = n ∧ ∀ j, j < n → V.slots[j]? = some (.int (lo8 (f j))) ∧ ¬ 255 < f j) ∨ (cd = 1 ∧ V.slots.size = 2 * n ∧ (∀ j, j < n → V.slots[2 * j]? = some (.int (lo8 (f j))) ∧ V.slots[2 * j + 1]? = some (.int (hi8 (f j)))) ∧ ∃ j, j < n ∧ 255 < f j)
theorem Cod.cd {cd : Int32} {n : Nat} {f : Nat → Int32} {V : Cell} (h : Cod cd n f V) : cd = 0 ∨ cd = 1 := h.imp (fun q => q.1) fun q => q.1
theorem Cod.len {cd : Int32} {n : Nat} {f : Nat → Int32} {V : Cell} (h : Cod cd n f V) (hs : V.slots.size < 2 ^ 31) : Int32.ofNat V.slots.size >>> (cd &&& 31) = Int32.ofNat n := by
  rcases h with ⟨rfl, h, -⟩ | ⟨rfl, h, -⟩
  · rw [shr0, h]
  · rw [h, shr1 (by omega)]
/-- **x is a String of the n chars f 0 .. f (n - 1)**, Latin-1 or UTF-16; its array at t has the cell V -/
def Txt (x t : Addr) (V : Cell) (cd : Int32) (n : Nat) (f : Nat → Int32) (U : State) : Prop := Exact "java/lang/String" x U ∧ Has x "java/lang/String" "value" "[B" (.ref t) U ∧ Has x "java/lang/String" "coder" "B" (.int cd) U ∧ XT.Arr .byte t V U ∧ Cod cd n f V ∧ ∀ j, j < n → ¬ f j < 0 ∧ ¬ 65535 < f j
theorem Txt.mv {x t : Addr} {V : Cell} {cd : Int32} {n : Nat} {f : Nat → Int32} {U U' : State} (h : Txt x t V cd n f U) (hal : U.vm.Alike U'.vm) (hh : U'.heap = U.heap) : Txt x t V cd n f U' := ⟨h.1.mv hal hh, h.2.1.mv hal hh, h.2.2.1.mv hal hh, h.2.2.2.1.mv hal hh, h.2.2.2.2⟩
namespace Cdr
def yN : MethodName := ⟨"java/lang/String", "coder", "()B"⟩
abbrev yB : ByteArray := jdk_42_method_152_code
theorem d0 : decode yB 0 = .ok (.getstatic 38, 3) := by decide +kernel
theorem d3 : decode yB 3 = .ok (.ifCond (.eq) 10, 3) := by decide +kernel
theorem d6 : decode yB 6 = .ok (.aload_n 0, 1) := by decide +kernel
theorem d7 : decode yB 7 = .ok (.getfield 15, 3) := by decide +kernel
theorem d10 : decode yB 10 = .ok (.goto 4, 3) := by decide +kernel
theorem d14 : decode yB 14 = .ok (.ireturn, 1) := by decide +kernel
def site : List Cond := [.fieldLink "java/lang/String" 38 "java/lang/String" "COMPACT_STRINGS" "Z", .fieldLink "java/lang/String" 15 "java/lang/String" "coder" "B"]
def tab : Cond := tabOf yN yB 1 (some .byte) site
def P (x : Addr) (cd z : Int32) (args : Array Value) (s : State) : Prop := args = #[.ref x] ∧ Has x "java/lang/String" "coder" "B" (.int cd) s ∧ (cd = 0 ∨ cd = 1) ∧ StaticIs s "java/lang/String" "COMPACT_STRINGS" "Z" (.int z) ∧ ¬ z = 0
def E (cd : Int32) (r : Option Value) (s u : State) : Prop := XT.PureE (some (.int cd)) r s u
theorem law (l : Launch) (x : Addr) (cd z : Int32) : Law l yN 1 0 0 0 yB 1 (some .byte) site (P x cd z) (E cd) [] 0 0 := by
  refine Law.of_walk (plainFor_of_name (by decide +kernel)) (by decide +kernel) (by decide +kernel) (by decide) (fun _ _ h => by rw [h.1]; rfl) (fun _ U U' hal hh h => ⟨h.1, h.2.1.mv hal hh, h.2.2.1, h.2.2.2.1.there hal hh, h.2.2.2.2⟩) (fun r U U' V V' h1 hal h2 h => XT.PureE.mv r U U' V V' h1 hal h2 h) ?_
  intro p e s m args below meth c s₁ X0 hexec hbytes hml hret hlk hnm hown hh0 W hP
  obtain ⟨rfl, hx, hc, s1, hz⟩ := hP
  have c1 : Steps p.tables e below (s₁.setTop (entryFrame m #[.ref x] 1)) (s₁.setTop (mkF m 0 #[.val (.ref x)] [])) := entry rfl
  obtain ⟨T2, X2, q2, st2⟩ := X0.sget hexec hown (wk W (.fieldLink "java/lang/String" 38 "java/lang/String" "COMPACT_STRINGS" "Z")) s1 (fun _ _ h => by rw [hh0]; exact h) (g := (mkF m 0 #[.val (.ref x)] [])) rfl (hb hbytes d0)
  have hh2 := q2.trans hh0
  have c3 : Steps p.tables e below (s₁.setTop (entryFrame m #[.ref x] 1)) (T2.setTop (mkF m 7 #[.val (.ref x)] [.ref x])) := (c1.trans (st2 _ (Steps.refl _))).trans (by
    refine XS.ifNo X2.here hexec rfl (hb hbytes d3) rfl (i0_eq_f hz) ?_
    refine XS.aloadN X2.here hexec rfl (hb hbytes d6) rfl rfl ?_
    exact Steps.refl _)
  obtain ⟨T4, X4, q4, st4⟩ := X2.hget hexec hown (wk W (.fieldLink "java/lang/String" 15 "java/lang/String" "coder" "B")) (hx.mv X2.warmed.alike hh2) (g := (mkF m 7 #[.val (.ref x)] [.ref x])) rfl (rest := []) rfl (hb hbytes d7)
  have c5 : Steps p.tables e below (s₁.setTop (entryFrame m #[.ref x] 1)) (T4.setTop (mkF m 14 #[.val (.ref x)] [.int cd])) := (c3.trans (st4 _ (Steps.refl _))).trans (by
    refine XS.goto X4.here hexec rfl (pc0 := 10) rfl (hb hbytes d10) (by decide) rfl ?_
    exact Steps.refl _)
  exact ⟨T4, some (.int cd), _, _, _, X4, rfl, rfl, rfl, (fun h => by cases h), ⟨rfl, q4.trans hh2⟩, fun fs hl => c5.trans (X4.ireturnOut hexec hret (by rcases hc with rfl | rfl <;> rfl) (Or.inr (Or.inr (Or.inl rfl))) (hb hbytes d14) hl)⟩
end Cdr
namespace Len
def yN : MethodName := ⟨"java/lang/String", "length", "()I"⟩
abbrev yB : ByteArray := jdk_42_method_54_code
theorem d0 : decode yB 0 = .ok (.aload_n 0, 1) := by decide +kernel
theorem d1 : decode yB 1 = .ok (.getfield 9, 3) := by decide +kernel
theorem d4 : decode yB 4 = .ok (.arraylength, 1) := by decide +kernel
theorem d5 : decode yB 5 = .ok (.aload_n 0, 1) := by decide +kernel
theorem d6 : decode yB 6 = .ok (.invokevirtual 335, 3) := by decide +kernel
theorem d9 : decode yB 9 = .ok (.ishr, 1) := by decide +kernel
theorem d10 : decode yB 10 = .ok (.ireturn, 1) := by decide +kernel
def site : List Cond := [.fieldLink "java/lang/String" 9 "java/lang/String" "value" "[B", Cdr.tab] ++ virtW "java/lang/String" 335 "java/lang/String" Cdr.yN Cdr.yN
def tab : Cond := tabOf yN yB 1 (some .int) site
def P (x t : Addr) (V : Cell) (cd : Int32) (n : Nat) (f : Nat → Int32) (z : Int32) (args : Array Value) (s : State) : Prop := args = #[.ref x] ∧ Txt x t V cd n f s ∧ StaticIs s "java/lang/String" "COMPACT_STRINGS" "Z" (.int z) ∧ ¬ z = 0
def E (n : Nat) (r : Option Value) (s u : State) : Prop := XT.PureE (some (.int (Int32.ofNat n))) r s u
/-- length() of a String of n chars, in either coding -/
theorem law (l : Launch) (x t : Addr) (V : Cell) (cd : Int32) (n : Nat) (f : Nat → Int32) (z : Int32) : Law l yN 1 0 1 13 yB 1 (some .int) site (P x t V cd n f z) (E n) [] 0 0 := by
  refine Law.of_walk (plainFor_of_name (by decide +kernel)) (by decide +kernel) (by decide +kernel) (by decide) (fun _ _ h => by rw [h.1]; rfl) (fun _ U U' hal hh h => ⟨h.1, h.2.1.mv hal hh, h.2.2.1.there hal hh, h.2.2.2⟩) (fun r U U' V V' h1 hal h2 h => XT.PureE.mv r U U' V V' h1 hal h2 h) ?_
  intro p e s m args below meth c s₁ X0 hexec hbytes hml hret hlk hnm hown hh0 W hP
  obtain ⟨rfl, hx, s1, hz⟩ := hP
  have v31 := hx.2.2.2.1.2.2.2
  have c1 : Steps p.tables e below (s₁.setTop (entryFrame m #[.ref x] 1)) (s₁.setTop (mkF m 1 #[.val (.ref x)] [.ref x])) := Steps.trans (entry rfl) (by
    show Steps p.tables e below (s₁.setTop (mkF m 0 #[.val (.ref x)] [])) _
    refine XS.aloadN X0.here hexec rfl (hb hbytes d0) rfl rfl ?_
    exact Steps.refl _)
  obtain ⟨T2, X2, q2, st2⟩ := X0.hget hexec hown (wk W (.fieldLink "java/lang/String" 9 "java/lang/String" "value" "[B")) (hx.mv X0.warmed.alike hh0).2.1 (g := (mkF m 1 #[.val (.ref x)] [.ref x])) rfl (rest := []) rfl (hb hbytes d1)
  have hh2 := q2.trans hh0
  have hx2 := hx.mv X2.warmed.alike hh2
  have c3 : Steps p.tables e below (s₁.setTop (entryFrame m #[.ref x] 1)) (T2.setTop (mkF m 6 #[.val (.ref x)] [.ref x, .int (Int32.ofNat V.slots.size)])) := (c1.trans (st2 _ (Steps.refl _))).trans (by
    refine X2.alen hexec hx2.2.2.2.1 rfl rfl (hb hbytes d4) ?_
    refine XS.aloadN X2.here hexec rfl (hb hbytes d5) rfl rfl ?_
    exact Steps.refl _)
  obtain ⟨v4, T4, X4, E4, g4⟩ := X2.callV hexec (Cdr.law l x cd z) hown (wks W (virtW "java/lang/String" 335 "java/lang/String" Cdr.yN Cdr.yN)) rfl (by decide) (wk W Cdr.tab) (W := 1) (Nat.le_of_ble_eq_true rfl) (Nat.le_of_ble_eq_true rfl) (Nat.le_refl _) (Nat.le_refl _) (hx2.1.fc X2.warmed.alike) hx2.1.is (g := (mkF m 6 #[.val (.ref x)] [.ref x, .int (Int32.ofNat V.slots.size)])) rfl (by rw [hml]; rfl) c3 (argsL := []) (rest := [.int (Int32.ofNat V.slots.size)]) rfl rfl (by show 2 * 0 + (1 + 0) ≤ _; decide) (hb hbytes d6) (⟨rfl, hx2.2.2.1, hx.2.2.2.2.1.cd, s1.there X2.warmed.alike hh2, hz⟩)
  obtain ⟨rfl, q4⟩ := E4
  have c5 : Steps p.tables e below (s₁.setTop (entryFrame m #[.ref x] 1)) (T4.setTop (mkF m 10 #[.val (.ref x)] [.int (Int32.ofNat V.slots.size >>> (cd &&& 31))])) := Steps.trans g4 (by
    refine ishr X4.here hexec rfl (hb hbytes d9) rfl ?_
    exact Steps.refl _)
  rw [hx.2.2.2.2.1.len v31] at c5
  exact ⟨T4, some (.int (Int32.ofNat n)), _, _, _, X4, rfl, rfl, rfl, (fun h => by cases h), ⟨rfl, q4.trans hh2⟩, fun fs hl => c5.trans (X4.ireturnOut hexec hret rfl (Or.inl rfl) (hb hbytes d10) hl)⟩
theorem pays {l : Launch} {R : Room} {p : Program} {e : Env} {below : List Frame} {s : State} {sargs : Array Value} {len W : Nat} (x t : Addr) (V : Cell) (cd : Int32) (n : Nat) (f : Nat → Int32) (z : Int32) (htab : tab.before sargs s = true) (hfr : 2 ≤ R.frames) (hlo : W + 25 ≤ R.locals) :
    Back l R p e below s sargs yN len W (fun A₁ a₁ => A₁.cells + 0 ≤ R.cells ∧ A₁.slots + 0 ≤ R.slots ∧ P x t V cd n f z a₁ A₁.U) (fun A₁ _ v₁ B₁ => E n v₁ A₁.U B₁.U ∧ B₁.locs = A₁.locs ++ [] ∧ B₁.cells = A₁.cells + 0 ∧ B₁.slots = A₁.slots + 0) :=
  (law l x t V cd n f z).pays htab hfr (by omega)
end Len
namespace IsL
def yN : MethodName := ⟨"java/lang/String", "isLatin1", "()Z"⟩
abbrev yB : ByteArray := jdk_42_method_154_code
theorem d0 : decode yB 0 = .ok (.getstatic 38, 3) := by decide +kernel
theorem d3 : decode yB 3 = .ok (.ifCond (.eq) 14, 3) := by decide +kernel
theorem d6 : decode yB 6 = .ok (.aload_n 0, 1) := by decide +kernel
theorem d7 : decode yB 7 = .ok (.getfield 15, 3) := by decide +kernel
theorem d10 : decode yB 10 = .ok (.ifCond (.ne) 7, 3) := by decide +kernel
theorem d13 : decode yB 13 = .ok (.iconst 1, 1) := by decide +kernel
theorem d14 : decode yB 14 = .ok (.goto 4, 3) := by decide +kernel
theorem d17 : decode yB 17 = .ok (.iconst 0, 1) := by decide +kernel
theorem d18 : decode yB 18 = .ok (.ireturn, 1) := by decide +kernel
def site : List Cond := [.fieldLink "java/lang/String" 38 "java/lang/String" "COMPACT_STRINGS" "Z", .fieldLink "java/lang/String" 15 "java/lang/String" "coder" "B"]
def tab : Cond := tabOf yN yB 1 (some .boolean) site
def P (x : Addr) (cd z : Int32) (args : Array Value) (s : State) : Prop := args = #[.ref x] ∧ Has x "java/lang/String" "coder" "B" (.int cd) s ∧ (cd = 0 ∨ cd = 1) ∧ StaticIs s "java/lang/String" "COMPACT_STRINGS" "Z" (.int z) ∧ ¬ z = 0
def E (cd : Int32) (r : Option Value) (s u : State) : Prop := XT.PureE (some (.int (1 - cd))) r s u
theorem law (l : Launch) (x : Addr) (cd z : Int32) : Law l yN 1 0 0 0 yB 1 (some .boolean) site (P x cd z) (E cd) [] 0 0 := by
  refine Law.of_walk (plainFor_of_name (by decide +kernel)) (by decide +kernel) (by decide +kernel) (by decide) (fun _ _ h => by rw [h.1]; rfl) (fun _ U U' hal hh h => ⟨h.1, h.2.1.mv hal hh, h.2.2.1, h.2.2.2.1.there hal hh, h.2.2.2.2⟩) (fun r U U' V V' h1 hal h2 h => XT.PureE.mv r U U' V V' h1 hal h2 h) ?_
  intro p e s m args below meth c s₁ X0 hexec hbytes hml hret hlk hnm hown hh0 W hP
  obtain ⟨rfl, hx, hc, s1, hz⟩ := hP
  have c1 : Steps p.tables e below (s₁.setTop (entryFrame m #[.ref x] 1)) (s₁.setTop (mkF m 0 #[.val (.ref x)] [])) := entry rfl
  obtain ⟨T2, X2, q2, st2⟩ := X0.sget hexec hown (wk W (.fieldLink "java/lang/String" 38 "java/lang/String" "COMPACT_STRINGS" "Z")) s1 (fun _ _ h => by rw [hh0]; exact h) (g := (mkF m 0 #[.val (.ref x)] [])) rfl (hb hbytes d0)
  have hh2 := q2.trans hh0
  have c3 : Steps p.tables e below (s₁.setTop (entryFrame m #[.ref x] 1)) (T2.setTop (mkF m 7 #[.val (.ref x)] [.ref x])) := (c1.trans (st2 _ (Steps.refl _))).trans (by
    refine XS.ifNo X2.here hexec rfl (hb hbytes d3) rfl (i0_eq_f hz) ?_
    refine XS.aloadN X2.here hexec rfl (hb hbytes d6) rfl rfl ?_
    exact Steps.refl _)
  obtain ⟨T4, X4, q4, st4⟩ := X2.hget hexec hown (wk W (.fieldLink "java/lang/String" 15 "java/lang/String" "coder" "B")) (hx.mv X2.warmed.alike hh2) (g := (mkF m 7 #[.val (.ref x)] [.ref x])) rfl (rest := []) rfl (hb hbytes d7)
  have c5 : Steps p.tables e below (s₁.setTop (entryFrame m #[.ref x] 1)) (T4.setTop (mkF m 10 #[.val (.ref x)] [.int cd])) := c3.trans (st4 _ (Steps.refl _))
  have c6 : Steps p.tables e below (s₁.setTop (entryFrame m #[.ref x] 1)) (T4.setTop (mkF m 18 #[.val (.ref x)] [.int (1 - cd)])) := by
    rcases hc with rfl | rfl
    · exact c5.trans (by
        refine XS.ifNo X4.here hexec rfl (hb hbytes d10) rfl (i0_ne_f rfl) ?_
        refine iconstV X4.here hexec rfl 1 (hb hbytes d13) (by decide) ?_
        refine XS.goto X4.here hexec rfl (pc0 := 14) rfl (hb hbytes d14) (by decide) rfl ?_
        exact Steps.refl _)
    · exact c5.trans (by
        refine XS.ifYes X4.here hexec rfl (pc0 := 10) rfl (hb hbytes d10) rfl (i0_ne_t (by decide)) (by decide) rfl ?_
        refine iconstV X4.here hexec rfl 0 (hb hbytes d17) (by decide) ?_
        exact Steps.refl _)
  exact ⟨T4, some (.int (1 - cd)), _, _, _, X4, rfl, rfl, rfl, (fun h => by cases h), ⟨rfl, q4.trans hh2⟩, fun fs hl => c6.trans (X4.ireturnOut hexec hret (by rcases hc with rfl | rfl <;> rfl) (Or.inr (Or.inl rfl)) (hb hbytes d18) hl)⟩
end IsL
namespace LChA
def yN : MethodName := ⟨"java/lang/StringLatin1", "charAt", "([BI)C"⟩
abbrev yB : ByteArray := jdk_43_method_2_code
theorem d0 : decode yB 0 = .ok (.iload_n 1, 1) := by decide +kernel
theorem d1 : decode yB 1 = .ok (.aload_n 0, 1) := by decide +kernel
theorem d2 : decode yB 2 = .ok (.arraylength, 1) := by decide +kernel
theorem d3 : decode yB 3 = .ok (.invokestatic 9, 3) := by decide +kernel
theorem d6 : decode yB 6 = .ok (.aload_n 0, 1) := by decide +kernel
theorem d7 : decode yB 7 = .ok (.iload_n 1, 1) := by decide +kernel
theorem d8 : decode yB 8 = .ok (.baload, 1) := by decide +kernel
theorem d9 : decode yB 9 = .ok (.sipush 255, 3) := by decide +kernel
theorem d12 : decode yB 12 = .ok (.iand, 1) := by decide +kernel
theorem d13 : decode yB 13 = .ok (.i2c, 1) := by decide +kernel
theorem d14 : decode yB 14 = .ok (.ireturn, 1) := by decide +kernel
def site : List Cond := [JO.Str_checkIndex.tab] ++ staticW "java/lang/StringLatin1" 9 JO.Str_checkIndex.yN
def tab : Cond := tabOf yN yB 2 (some .char) site
def P (t : Addr) (V : Cell) (i : Nat) (u : Int32) (fm : Value) (args : Array Value) (s : State) : Prop := args = #[.ref t, .int (Int32.ofNat i)] ∧ XT.Arr .byte t V s ∧ V.slots[i]? = some (.int u) ∧ (StaticIs s "jdk/internal/util/Preconditions" "SIOOBE_FORMATTER" "Ljava/util/function/BiFunction;" fm ∧ fm.isRef = true)
def E (u : Int32) (r : Option Value) (s w : State) : Prop := XT.PureE (some (.int (chr8 u))) r s w
theorem law (l : Launch) (t : Addr) (V : Cell) (i : Nat) (u : Int32) (fm : Value) : Law l yN 2 2 2 27 yB 2 (some .char) site (P t V i u fm) (E u) [] 0 0 := by
  refine Law.of_walk (plainFor_of_name (by decide +kernel)) (by decide +kernel) (by decide +kernel) (by decide) (fun _ _ h => by rw [h.1]; rfl) (fun _ U U' hal hh h => ⟨h.1, h.2.1.mv hal hh, h.2.2.1, h.2.2.2.1.there hal hh, h.2.2.2.2⟩) (fun r U U' V V' h1 hal h2 h => XT.PureE.mv r U U' V V' h1 hal h2 h) ?_
  intro p e s m args below meth c s₁ X0 hexec hbytes hml hret hlk hnm hown hh0 W hP
  obtain ⟨rfl, hV, hu, s1, rf⟩ := hP
  have v31 := hV.2.2.2
  have hi : i < V.slots.size := (Array.getElem?_eq_some_iff.mp hu).1
  have c1 : Steps p.tables e below (s₁.setTop (entryFrame m #[.ref t, .int (Int32.ofNat i)] 2)) (s₁.setTop (mkF m 0 #[.val (.ref t), .val (.int (Int32.ofNat i))] [])) := entry rfl
  have c2 : Steps p.tables e below (s₁.setTop (entryFrame m #[.ref t, .int (Int32.ofNat i)] 2)) (s₁.setTop (mkF m 3 #[.val (.ref t), .val (.int (Int32.ofNat i))] [.int (Int32.ofNat V.slots.size), .int (Int32.ofNat i)])) := c1.trans (by
    refine XS.iloadN X0.here hexec rfl (hb hbytes d0) rfl ?_
    refine XS.aloadN X0.here hexec rfl (hb hbytes d1) rfl rfl ?_
    refine X0.alen hexec (hV.mv X0.warmed.alike hh0) rfl rfl (hb hbytes d2) ?_
    exact Steps.refl _)
  obtain ⟨v3, T3, X3, E3, g3⟩ := X0.callS hexec (JO.Str_checkIndex.law l (Int32.ofNat i) (Int32.ofNat V.slots.size) fm) hown (wks W (staticW "java/lang/StringLatin1" 9 JO.Str_checkIndex.yN)) (wk W JO.Str_checkIndex.tab) (W := 0) (Nat.le_of_ble_eq_true rfl) (Nat.le_of_ble_eq_true rfl) (Nat.le_refl _) (Nat.le_refl _) (g := (mkF m 3 #[.val (.ref t), .val (.int (Int32.ofNat i))] [.int (Int32.ofNat V.slots.size), .int (Int32.ofNat i)])) rfl (by rw [hml]; rfl) c2 (argsL := [.int (Int32.ofNat i), .int (Int32.ofNat V.slots.size)]) (rest := []) rfl rfl (by show 2 * 0 + 0 ≤ _; decide) (hb hbytes d3) (⟨rfl, rf, s1.there X0.warmed.alike hh0, Int32.ofNat_not_neg (by omega), lt32 v31 hi⟩)
  obtain ⟨rfl, q3⟩ := E3
  have hh3 := q3.trans hh0
  have c4 : Steps p.tables e below (s₁.setTop (entryFrame m #[.ref t, .int (Int32.ofNat i)] 2)) (T3.setTop (mkF m 14 #[.val (.ref t), .val (.int (Int32.ofNat i))] [.int (chr8 u)])) := Steps.trans g3 (by
    refine XS.aloadN X3.here hexec rfl (hb hbytes d6) rfl rfl ?_
    refine XS.iloadN X3.here hexec rfl (hb hbytes d7) rfl ?_
    refine X3.aget hexec (hV.mv X3.warmed.alike hh3) rfl hu rfl rfl (hb hbytes d8) ?_
    refine sipushV X3.here hexec rfl 255 (hb hbytes d9) (by decide) ?_
    refine XS.iand X3.here hexec rfl (hb hbytes d12) rfl ?_
    refine i2c X3.here hexec rfl (hb hbytes d13) rfl ?_
    exact Steps.refl _)
  exact ⟨T3, some (.int (chr8 u)), _, _, _, X3, rfl, rfl, rfl, (fun h => by cases h), ⟨rfl, hh3⟩, fun fs hl => c4.trans (X3.ireturnOut hexec hret (narrow_c _) (Or.inr (Or.inr (Or.inr (Or.inl rfl)))) (hb hbytes d14) hl)⟩
end LChA
end StrChars
namespace StrChars.Road
open Jvm Sem ClassFile Op Lib Jvm.Stand Jvm.Free Jvm.Free.XT
open Jvm.Lib.Cold (StaticIs)
theorem consq {a : Array Value} {s : State} {c : Jvm.Cond} {L : List Jvm.Cond} (h0 : c.before a s = true) (h : ∀ w ∈ L, w.before a s = true) : ∀ w ∈ c :: L, w.before a s = true := fun w hw => (List.mem_cons.mp hw).elim (fun e => e ▸ h0) (h w)
/-- the words of String.length(), either coding -/
abbrev wordsLen : List Jvm.Cond := [.code Len.yN Len.yB 1 (some .int), .initialized ST, .fieldLink ST 9 ST "value" "[B", .fieldLink ST 38 ST "COMPACT_STRINGS" "Z", .fieldLink ST 15 ST "coder" "B", .code Cdr.yN Cdr.yB 1 (some .byte), .methodLink ST 335 Cdr.yN, .declares Cdr.yN, .selects ST Cdr.yN Cdr.yN, .instanceMethod Cdr.yN]
theorem tabLen_of {a : Array Value} {s : State} (h : ∀ w ∈ wordsLen, w.before a s = true) : Len.tab.before a s = true := by
  have hc : Cdr.tab.before a s = true := unparts (wk h (.code Cdr.yN Cdr.yB 1 (some .byte))) (wks h (.initialized Cdr.yN.cls :: Cdr.site))
  have q := consq hc h
  exact unparts (wk q (.code Len.yN Len.yB 1 (some .int))) (wks q (.initialized Len.yN.cls :: Len.site))
theorem movedLen {Z s : State} {a0 args : Array Value} (hZ : Z.Warmed39 s.vm) (hw : ∀ d ∈ wordsLen, d.before a0 Z = true) : ∀ d ∈ wordsLen, d.before args s = true := fun d hd => by
  have q := hw d hd
  have t : ∀ d ∈ wordsLen, d = .arrayClass .byte ∨ (d.onTables && d.keepsFace) = true := by decide +kernel
  rcases t d hd with rfl | t
  · exact RoadKit.mvA hZ q
  · exact RoadKit.mv hZ q t
/-- the bytes of the chars cs, low before high -/
def wideBytes : List Int32 → List Value
  | [] => []
  | c :: cs => .int (lo8 c) :: .int (hi8 c) :: wideBytes cs
theorem wide_lo (d : Value) : ∀ (cs : List Int32) (j : Nat), j < cs.length → (wideBytes cs).getD (2 * j) d = .int (lo8 (cs.getD j 0))
  | [], j, h => absurd h (Nat.not_lt_zero j)
  | c :: cs, 0, _ => rfl
  | c :: cs, j + 1, h => by
    have q := wide_lo d cs j (by simpa using h)
    rw [show 2 * (j + 1) = 2 * j + 1 + 1 from by omega]
    simpa [wideBytes] using q
theorem wide_hi (d : Value) : ∀ (cs : List Int32) (j : Nat), j < cs.length → (wideBytes cs).getD (2 * j + 1) d = .int (hi8 (cs.getD j 0))
  | [], j, h => absurd h (Nat.not_lt_zero j)
  | c :: cs, 0, _ => rfl
  | c :: cs, j + 1, h => by
    have q := wide_hi d cs j (by simpa using h)
    rw [show 2 * (j + 1) + 1 = 2 * j + 1 + 1 + 1 from by omega]
    simpa [wideBytes] using q
theorem low_at (d : Value) (cs : List Int32) (j : Nat) (h : j < cs.length) : (cs.map fun c => Value.int (lo8 c)).getD j d = .int (lo8 (cs.getD j 0)) := by
  simp [List.getD_eq_getElem?_getD, h]
/-- an array of N2 bytes vs codes the chars cs by the coder cd -/
def CodA (cs : List Int32) (cd N2 : Int32) (vs : List Value) : Prop := (cd = 0 ∧ N2 = Int32.ofNat cs.length ∧ vs = (cs.map fun c => Value.int (lo8 c)) ∧ ∀ c ∈ cs, ¬ 255 < c) ∨ (cd = 1 ∧ N2 = Int32.ofNat (2 * cs.length) ∧ vs = wideBytes cs ∧ ∃ c ∈ cs, 255 < c)
theorem CodA.cod {cs : List Int32} {cd N2 : Int32} {vs : List Value} {V : Cell} (h : CodA cs cd N2 vs) (hn : 2 * cs.length < 2 ^ 31) (hs : V.slots.size = N2.toNatClampNeg) (hv : RoadKit.Has V vs (.int 0)) : Cod cd cs.length (fun j => cs.getD j 0) V := by
  rcases h with ⟨rfl, rfl, rfl, h⟩ | ⟨rfl, rfl, rfl, c, hc, hw⟩
  · rw [n32 (by omega)] at hs
    exact Or.inl ⟨rfl, hs, fun j hj => ⟨by rw [hv j (by omega), low_at _ _ _ hj], by
      have e : cs.getD j 0 = cs[j] := by simp [List.getD_eq_getElem?_getD, hj]
      show ¬ 255 < cs.getD j 0
      rw [e]; exact h _ (List.getElem_mem _)⟩⟩
  · rw [n32 (by omega)] at hs
    obtain ⟨j, hj, rfl⟩ := List.getElem_of_mem hc
    exact Or.inr ⟨rfl, hs, fun j hj => ⟨by rw [hv _ (by omega), wide_lo _ _ _ hj], by rw [hv _ (by omega), wide_hi _ _ _ hj]⟩, j, hj, by
      have e : cs.getD j 0 = cs[j] := by simp [List.getD_eq_getElem?_getD, hj]
      show 255 < cs.getD j 0
      rw [e]; exact hw⟩
/-- an object of exactly java/lang/String, its two fields found: as the laws ask it -/
theorem strObj {Z U : State} {a0 : Array Value} {kI : Nat} (wi : (Jvm.Cond.instantiable ST kI).before a0 Z = true) (al : Z.vm.Alike U.vm) {x : Addr} {v0 c0 : Value} (E : RoadKit.Exa Z U.heap x ST) (V : RoadKit.Fld Z U.heap x ST "value" "[B" v0) (C : RoadKit.Fld Z U.heap x ST "coder" "B" c0) :
    ∃ (D : Cell) (fV fC : Field), Blank ST x D U ∧ Found ST "value" "[B" fV U ∧ Found ST "coder" "B" fC U ∧ D.slots[fV.slot]? = some v0 ∧ D.slots[fC.slot]? = some c0 ∧ RoadKit.slotOf Z ST "value" "[B" = fV.slot ∧ RoadKit.slotOf Z ST "coder" "B" = fC.slot := by
  obtain ⟨D, cfV, kV, iV, fV, hD, gV, stV, knV, obV, asV, slV⟩ := V
  obtain ⟨D', cfC, kC, iC, fC, hD', gC, stC, -, -, asC, slC⟩ := C
  cases hD.symm.trans hD'
  obtain ⟨D2, kD, e1, e2, e3, e4, e5⟩ := E
  cases hD.symm.trans e1
  obtain ⟨c2, k2, i1, i2, i3, -⟩ := Cond.instantiable_spec wi
  cases e2.symm.trans i1
  cases e3.symm.trans i2
  obtain ⟨kU, u1, u2⟩ := al.2.2 _ _ e3
  exact ⟨D, fV, fC, ⟨hD, ⟨knV, fun q hq => by rw [hq] at obV; cases obV⟩, by rw [al.findClass]; exact e2, kU, u1, by rw [u2]; exact i3, by rw [u2]; exact e5 i3⟩, ⟨SBG.found_only al ⟨cfV, kV, iV, gV⟩, stV⟩, ⟨SBG.found_only al ⟨cfC, kC, iC, gC⟩, stC⟩, slV, slC, by simp [RoadKit.slotOf, gV], by simp [RoadKit.slotOf, gC]⟩
theorem sta_is {Z U : State} (al : Z.vm.Alike U.vm) {C n d : String} {v : Value} (S : RoadKit.Sta Z U.heap C n d v) : StaticIs U C n d v := by
  obtain ⟨cfS, iS, kS, fS, st, cS, t1, t2, t3, t4, t5, t6, t7⟩ := S
  exact StaticIs.there (s := { Z with heap := U.heap }) ⟨cfS, iS, kS, fS, st, cS, t1, t2, t3, t4, t5, (fun q => by rw [q] at t6; cases t6), t7⟩ al rfl
/-- **length() OF SUCH A STRING** -/
theorem lenW {p : Program} {l : Launch} {e : Env} {R : Room} {s : State} {args : Array Value} {below : List Frame} {len W : Nat} {Z : State} {a0 : Array Value} {h : Heap} (hZ : Z.Warmed39 s.vm) (hw : ∀ d ∈ wordsLen, d.before a0 Z = true) {kI : Nat} (wi : (Jvm.Cond.instantiable ST kI).before a0 Z = true)
    {x t : Addr} {kb : ClassId} {cs : List Int32} {cd N2 z : Int32} {vs : List Value} (E : RoadKit.Exa Z h x ST) (V : RoadKit.Fld Z h x ST "value" "[B" (.ref t)) (C : RoadKit.Fld Z h x ST "coder" "B" (.int cd)) (K : RoadKit.Arv Z h t kb .byte N2 vs (.int 0)) (hc : CodA cs cd N2 vs) (hb : ∀ c ∈ cs, ¬ c < 0 ∧ ¬ (65535 : Int32) < c)
    (S : RoadKit.Sta Z h ST "COMPACT_STRINGS" "Z" (.int z)) (hz : ¬ z = 0) (l2 : cs.length ≤ 4000) (hfr : 2 ≤ R.frames) (hlo : W + 25 ≤ R.locals) :
    Back l R p e below s args (⟨"java/lang/String", "length", "()I"⟩ : MethodName) len W (fun P a => a = #[.ref x] ∧ P.U.heap = h ∧ P.cells + 0 ≤ R.cells ∧ P.slots + 0 ≤ R.slots)
      (fun P _ v B => ∃ L, (v = some (.int (Int32.ofNat cs.length)) ∧ L = [] ∧ B.U.heap = h) ∧ B.locs = P.locs ++ L ∧ B.cells = P.cells + 0 ∧ B.slots = P.slots + 0) := by
  obtain ⟨A, K1, K2, K3, K4, K5, K6⟩ := K
  have hcod := hc.cod (by omega) K3 K5
  intro m meth c P g ig mk a X hg hsize hdg hW hn hp'
  obtain ⟨rfl, rfl, r1, r2⟩ := hp'
  have al : Z.vm.Alike P.U.vm := hZ.alike.trans X.warmed.alike
  obtain ⟨D, fV, fC, hB, F1, F2, g1, g2, -, -⟩ := strObj wi al E V C
  have hx : Txt x t A cd cs.length (fun j => cs.getD j 0) P.U := ⟨⟨_, hB.2.2.1, D, hB.1, rfl, by cases q : D.vm <;> first | rfl | exact absurd q (hB.2.1.2 _)⟩, Has.of hB F1 g1, Has.of hB F2 g2, ⟨K1.1, State.isArrayOf_alike al K1.2.1, K1.2.2, by rcases hcod with ⟨-, q, -⟩ | ⟨-, q, -⟩ <;> omega⟩, hcod, fun j hj => by
    have e : cs.getD j 0 = cs[j] := by simp [List.getD_eq_getElem?_getD, hj]
    show ¬ cs.getD j 0 < 0 ∧ ¬ 65535 < cs.getD j 0
    rw [e]; exact hb _ (List.getElem_mem _)⟩
  obtain ⟨v, B, X', ⟨⟨hv, hh⟩, hl, hk, hs⟩, st⟩ := Len.pays x t A cd cs.length (fun j => cs.getD j 0) z (tabLen_of (movedLen hZ hw)) hfr hlo m meth c P g ig mk _ X hg hsize hdg hW hn ⟨r1, r2, rfl, hx, sta_is al S, hz⟩
  exact ⟨v, B, X', ⟨[], ⟨hv, rfl, hh⟩, hl, hk, hs⟩, st⟩
end StrChars.Road
namespace StrChars
open Jvm Sem ClassFile Op Lib Jvm.Stand Jvm.Free.XT Jvm.Free.ALB Jvm.Free.JM Jvm.Free
open Jvm.Lib.Cold (StaticIs)
/-- what place i of a byte[]'s cell holds -/
def yv (A : Cell) (i : Nat) : Int32 := match A.slots[i]? with | some (.int x) => x | _ => 0
theorem yv_get {a : Addr} {A : Cell} {U : State} (h : XT.Arr .byte a A U) (ht : Typed .byte A) {i : Nat} (hi : i < A.slots.size) : A.slots[i]? = some (.int (yv A i)) := by
  have e := Array.getElem?_eq_getElem hi
  have f := ht i _ e
  unfold yv; rw [e]
  generalize A.slots[i] = v at f
  cases v <;> simp [fits] at f ⊢
/-- the two arrays are equal, place for place -/
def EqC (A B : Cell) : Prop := A.slots.size = B.slots.size ∧ ∀ i, i < A.slots.size → yv A i = yv B i
/-- a boolean that says whether p -/
def Says01 (q : Prop) (r : Option Value) (s u : State) : Prop := ∃ v : Int32, r = some (.int v) ∧ u.heap = s.heap ∧ ((v = 1 ∧ q) ∨ (v = 0 ∧ ¬ q))
theorem Says01.mv {q : Prop} : ∀ r (U U' V V' : State), U'.heap = U.heap → V.vm.Alike V'.vm → V'.heap = V.heap → Says01 q r U V → Says01 q r U' V' :=
  fun r U U' V V' h1 _ h2 ⟨v, a, b, c⟩ => ⟨v, a, by rw [h1, h2]; exact b, c⟩
namespace LEq
def yN : MethodName := ⟨"java/lang/StringLatin1", "equals", "([B[B)Z"⟩
abbrev yB : ByteArray := jdk_43_method_13_code
theorem d0 : decode yB 0 = .ok (.aload_n 0, 1) := by decide +kernel
theorem d1 : decode yB 1 = .ok (.arraylength, 1) := by decide +kernel
theorem d2 : decode yB 2 = .ok (.aload_n 1, 1) := by decide +kernel
theorem d3 : decode yB 3 = .ok (.arraylength, 1) := by decide +kernel
theorem d4 : decode yB 4 = .ok (.if_icmp (.ne) 30, 3) := by decide +kernel
theorem d7 : decode yB 7 = .ok (.iconst 0, 1) := by decide +kernel
theorem d8 : decode yB 8 = .ok (.istore_n 2, 1) := by decide +kernel
theorem d9 : decode yB 9 = .ok (.iload_n 2, 1) := by decide +kernel
theorem d10 : decode yB 10 = .ok (.aload_n 0, 1) := by decide +kernel
theorem d11 : decode yB 11 = .ok (.arraylength, 1) := by decide +kernel
theorem d12 : decode yB 12 = .ok (.if_icmp (.ge) 20, 3) := by decide +kernel
theorem d15 : decode yB 15 = .ok (.aload_n 0, 1) := by decide +kernel
theorem d16 : decode yB 16 = .ok (.iload_n 2, 1) := by decide +kernel
theorem d17 : decode yB 17 = .ok (.baload, 1) := by decide +kernel
theorem d18 : decode yB 18 = .ok (.aload_n 1, 1) := by decide +kernel
theorem d19 : decode yB 19 = .ok (.iload_n 2, 1) := by decide +kernel
theorem d20 : decode yB 20 = .ok (.baload, 1) := by decide +kernel
theorem d21 : decode yB 21 = .ok (.if_icmp (.eq) 5, 3) := by decide +kernel
theorem d24 : decode yB 24 = .ok (.iconst 0, 1) := by decide +kernel
theorem d25 : decode yB 25 = .ok (.ireturn, 1) := by decide +kernel
theorem d26 : decode yB 26 = .ok (.iinc 2 1, 3) := by decide +kernel
theorem d29 : decode yB 29 = .ok (.goto (-20), 3) := by decide +kernel
theorem d32 : decode yB 32 = .ok (.iconst 1, 1) := by decide +kernel
theorem d33 : decode yB 33 = .ok (.ireturn, 1) := by decide +kernel
theorem d34 : decode yB 34 = .ok (.iconst 0, 1) := by decide +kernel
theorem d35 : decode yB 35 = .ok (.ireturn, 1) := by decide +kernel
def site : List Cond := []
def tab : Cond := tabOf yN yB 3 (some .boolean) site
def P (a : Addr) (A : Cell) (b : Addr) (B : Cell) (args : Array Value) (s : State) : Prop := args = #[.ref a, .ref b] ∧ XT.Arr .byte a A s ∧ Typed .byte A ∧ XT.Arr .byte b B s ∧ Typed .byte B
/-- whether two byte[] are equal, place for place -/
theorem law (l : Launch) (a : Addr) (A : Cell) (b : Addr) (B : Cell) : Law l yN 2 2 0 0 yB 3 (some .boolean) site (P a A b B) (Says01 (EqC A B)) [] 0 0 := by
  refine Law.of_walk (plainFor_of_name (by decide +kernel)) (by decide +kernel) (by decide +kernel) (by decide) (fun _ _ h => by rw [h.1]; rfl) (fun _ U U' hal hh h => ⟨h.1, h.2.1.mv hal hh, h.2.2.1, h.2.2.2.1.mv hal hh, h.2.2.2.2⟩) (fun r U U' V V' h1 hal h2 h => Says01.mv r U U' V V' h1 hal h2 h) ?_
  intro p e s m args below meth c s₁ X0 hexec hbytes hml hret hlk hnm hown hh0 W hP
  obtain ⟨rfl, hA, tA, hB, tB⟩ := hP
  have a31 := hA.2.2.2
  have b31 := hB.2.2.2
  have hA0 := hA.mv X0.warmed.alike hh0
  have hB0 := hB.mv X0.warmed.alike hh0
  have c1 : Steps p.tables e below (s₁.setTop (entryFrame m #[.ref a, .ref b] 3)) (s₁.setTop (mkF m 0 #[.val (.ref a), .val (.ref b), .unset] [])) := entry rfl
  have c2 : Steps p.tables e below (s₁.setTop (entryFrame m #[.ref a, .ref b] 3)) (s₁.setTop (mkF m 4 #[.val (.ref a), .val (.ref b), .unset] [.int (Int32.ofNat B.slots.size), .int (Int32.ofNat A.slots.size)])) := c1.trans (by
    refine XS.aloadN X0.here hexec rfl (hb hbytes d0) rfl rfl ?_
    refine X0.alen hexec hA0 rfl rfl (hb hbytes d1) ?_
    refine XS.aloadN X0.here hexec rfl (hb hbytes d2) rfl rfl ?_
    refine X0.alen hexec hB0 rfl rfl (hb hbytes d3) ?_
    exact Steps.refl _)
  by_cases hs : A.slots.size = B.slots.size
  · have c3 : Steps p.tables e below (s₁.setTop (entryFrame m #[.ref a, .ref b] 3)) (s₁.setTop (mkF m 9 #[.val (.ref a), .val (.ref b), .val (.int 0)] [])) := c2.trans (by
      refine XS.icmpNo X0.here hexec rfl (hb hbytes d4) rfl (ii_ne_f (by rw [hs])) ?_
      refine iconstV X0.here hexec rfl 0 (hb hbytes d7) (by decide) ?_
      refine XS.istoreN X0.here hexec rfl (hb hbytes d8) rfl rfl ?_
      exact Steps.refl _)
    have loop : ∀ (r i : Nat), i + r = A.slots.size → (∀ j, j < i → yv A j = yv B j) → Steps p.tables e below (s₁.setTop (entryFrame m #[.ref a, .ref b] 3)) (s₁.setTop (mkF m 9 #[.val (.ref a), .val (.ref b), .val (.int (Int32.ofNat i))] [])) → ∃ (pc : Nat) (Ls : Array Slot) (v : Int32), (pc = 25 ∨ pc = 33) ∧ ((v = 1 ∧ EqC A B) ∨ (v = 0 ∧ ¬ EqC A B)) ∧ Steps p.tables e below (s₁.setTop (entryFrame m #[.ref a, .ref b] 3)) (s₁.setTop (mkF m pc Ls [.int v])) := by
      intro r
      induction r with
      | zero =>
        intro i hi he cl
        exact ⟨33, _, 1, Or.inr rfl, Or.inl ⟨rfl, hs, fun j hj => he j (by omega)⟩, cl.trans (by
          refine XS.iloadN X0.here hexec rfl (hb hbytes d9) rfl ?_
          refine XS.aloadN X0.here hexec rfl (hb hbytes d10) rfl rfl ?_
          refine X0.alen hexec hA0 rfl rfl (hb hbytes d11) ?_
          refine XS.icmpYes X0.here hexec rfl (pc0 := 12) rfl (hb hbytes d12) rfl (ii_ge_t (nlt32 (by omega) (by omega))) (by decide) rfl ?_
          refine iconstV X0.here hexec rfl 1 (hb hbytes d32) (by decide) ?_
          exact Steps.refl _)⟩
      | succ r ih =>
        intro i hi he cl
        have c4 : Steps p.tables e below (s₁.setTop (entryFrame m #[.ref a, .ref b] 3)) (s₁.setTop (mkF m 21 #[.val (.ref a), .val (.ref b), .val (.int (Int32.ofNat i))] [.int (yv B i), .int (yv A i)])) := cl.trans (by
          refine XS.iloadN X0.here hexec rfl (hb hbytes d9) rfl ?_
          refine XS.aloadN X0.here hexec rfl (hb hbytes d10) rfl rfl ?_
          refine X0.alen hexec hA0 rfl rfl (hb hbytes d11) ?_
          refine XS.icmpNo X0.here hexec rfl (hb hbytes d12) rfl (ii_ge_f (lt32 (by omega) (by omega))) ?_
          refine XS.aloadN X0.here hexec rfl (hb hbytes d15) rfl rfl ?_
          refine XS.iloadN X0.here hexec rfl (hb hbytes d16) rfl ?_
          refine X0.aget hexec hA0 rfl (yv_get hA tA (i := i) (by omega)) rfl rfl (hb hbytes d17) ?_
          refine XS.aloadN X0.here hexec rfl (hb hbytes d18) rfl rfl ?_
          refine XS.iloadN X0.here hexec rfl (hb hbytes d19) rfl ?_
          refine X0.aget hexec hB0 rfl (yv_get hB tB (i := i) (by omega)) rfl rfl (hb hbytes d20) ?_
          exact Steps.refl _)
        by_cases hv : yv A i = yv B i
        · have c5 : Steps p.tables e below (s₁.setTop (entryFrame m #[.ref a, .ref b] 3)) (s₁.setTop (mkF m 9 #[.val (.ref a), .val (.ref b), .val (.int (Int32.ofNat i + 1))] [])) := c4.trans (by
            refine XS.icmpYes X0.here hexec rfl (pc0 := 21) rfl (hb hbytes d21) rfl (ii_eq_t hv) (by decide) rfl ?_
            refine iincV X0.here hexec rfl 1 (hb hbytes d26) (by decide) rfl rfl ?_
            refine XS.goto X0.here hexec rfl (pc0 := 29) rfl (hb hbytes d29) (by decide) rfl ?_
            exact Steps.refl _)
          rw [succ32] at c5
          exact ih (i + 1) (by omega) (fun j hj => by
            by_cases e : j = i
            · rw [e]; exact hv
            · exact he j (by omega)) c5
        · exact ⟨25, _, 0, Or.inl rfl, Or.inr ⟨rfl, fun q => hv (q.2 i (by omega))⟩, c4.trans (by
            refine XS.icmpNo X0.here hexec rfl (hb hbytes d21) rfl (ii_eq_f hv) ?_
            refine iconstV X0.here hexec rfl 0 (hb hbytes d24) (by decide) ?_
            exact Steps.refl _)⟩
    obtain ⟨pc, Ls, v, hpc, hv, cz⟩ := loop A.slots.size 0 (by omega) (fun j hj => absurd hj (Nat.not_lt_zero j)) c3
    have nv : narrow .boolean (.int v) = .int v := by rcases hv with ⟨rfl, -⟩ | ⟨rfl, -⟩ <;> rfl
    rcases hpc with rfl | rfl
    · exact ⟨s₁, some (.int v), _, _, _, X0, rfl, rfl, rfl, (fun h => by cases h), ⟨v, rfl, hh0, hv⟩, fun fs hl => cz.trans (X0.ireturnOut hexec hret nv (Or.inr (Or.inl rfl)) (hb hbytes d25) hl)⟩
    · exact ⟨s₁, some (.int v), _, _, _, X0, rfl, rfl, rfl, (fun h => by cases h), ⟨v, rfl, hh0, hv⟩, fun fs hl => cz.trans (X0.ireturnOut hexec hret nv (Or.inr (Or.inl rfl)) (hb hbytes d33) hl)⟩
  · have c3 : Steps p.tables e below (s₁.setTop (entryFrame m #[.ref a, .ref b] 3)) (s₁.setTop (mkF m 35 #[.val (.ref a), .val (.ref b), .unset] [.int 0])) := c2.trans (by
      refine XS.icmpYes X0.here hexec rfl (pc0 := 4) rfl (hb hbytes d4) rfl (ii_ne_t (ne32 a31 b31 hs)) (by decide) rfl ?_
      refine iconstV X0.here hexec rfl 0 (hb hbytes d34) (by decide) ?_
      exact Steps.refl _)
    exact ⟨s₁, some (.int 0), _, _, _, X0, rfl, rfl, rfl, (fun h => by cases h), ⟨0, rfl, hh0, Or.inr ⟨rfl, fun q => hs q.1⟩⟩, fun fs hl => c3.trans (X0.ireturnOut hexec hret rfl (Or.inr (Or.inl rfl)) (hb hbytes d35) hl)⟩
end LEq
theorem Cod.ty {cd : Int32} {n : Nat} {f : Nat → Int32} {V : Cell} (h : Cod cd n f V) : Typed .byte V := fun i v hv => by
  have hi : i < V.slots.size := (Array.getElem?_eq_some_iff.mp hv).1
  rcases h with ⟨-, k1, k2⟩ | ⟨-, k1, k2, -⟩
  · rw [(k2 i (by omega)).1] at hv; cases hv; exact fits_lo8 _
  · rcases Nat.mod_two_eq_zero_or_one i with e | e
    · obtain ⟨j, rfl⟩ : ∃ j, i = 2 * j := ⟨i / 2, by omega⟩
      rw [(k2 j (by omega)).1] at hv; cases hv; exact fits_lo8 _
    · obtain ⟨j, rfl⟩ : ∃ j, i = 2 * j + 1 := ⟨i / 2, by omega⟩
      rw [(k2 j (by omega)).2] at hv; cases hv; exact fits_lo8 _
/-- the same text -/
def SameT (n : Nat) (f : Nat → Int32) (k : Nat) (g : Nat → Int32) : Prop := n = k ∧ ∀ j, j < n → f j = g j
theorem lo8_inj {x y : Int32} (h0 : ¬ x < 0) (h1 : ¬ 255 < x) (k0 : ¬ y < 0) (k1 : ¬ 255 < y) (h : lo8 x = lo8 y) : x = y := by
  rw [← lo8_mask h0 h1, ← lo8_mask k0 k1, h]
/-- arrays coded by one coder are equal just where the texts are -/
theorem Cod.eqv {cd : Int32} {n k : Nat} {f g : Nat → Int32} {V V' : Cell} (h : Cod cd n f V) (h' : Cod cd k g V') (hf : ∀ j, j < n → ¬ f j < 0 ∧ ¬ 65535 < f j) (hg : ∀ j, j < k → ¬ g j < 0 ∧ ¬ 65535 < g j) : EqC V V' ↔ SameT n f k g := by
  have yvv : ∀ {W : Cell} {i : Nat} {x : Int32}, W.slots[i]? = some (.int x) → yv W i = x := fun q => by unfold yv; rw [q]
  rcases h with ⟨rfl, k1, k2⟩ | ⟨rfl, k1, k2, -⟩
  · rcases h' with ⟨-, m1, m2⟩ | ⟨e, -⟩
    · constructor
      · rintro ⟨e1, e2⟩
        refine ⟨by omega, fun j hj => ?_⟩
        have q := e2 j (by omega)
        rw [yvv (k2 j hj).1, yvv (m2 j (by omega)).1] at q
        exact lo8_inj (hf j hj).1 (k2 j hj).2 (hg j (by omega)).1 (m2 j (by omega)).2 q
      · rintro ⟨rfl, e2⟩
        refine ⟨by omega, fun j hj => ?_⟩
        rw [yvv (k2 j (by omega)).1, yvv (m2 j (by omega)).1, e2 j (by omega)]
    · exact absurd e (by decide)
  · rcases h' with ⟨e, -⟩ | ⟨-, m1, m2, -⟩
    · exact absurd e (by decide)
    · constructor
      · rintro ⟨e1, e2⟩
        refine ⟨by omega, fun j hj => ?_⟩
        have q1 := e2 (2 * j) (by omega)
        have q2 := e2 (2 * j + 1) (by omega)
        rw [yvv (k2 j hj).1, yvv (m2 j (by omega)).1] at q1
        rw [yvv (k2 j hj).2, yvv (m2 j (by omega)).2] at q2
        rw [← pair_says (hf j hj).1 (hf j hj).2, ← pair_says (hg j (by omega)).1 (hg j (by omega)).2, q1, q2]
      · rintro ⟨rfl, e2⟩
        refine ⟨by omega, fun i hi => ?_⟩
        rcases Nat.mod_two_eq_zero_or_one i with e | e
        · obtain ⟨j, rfl⟩ : ∃ j, i = 2 * j := ⟨i / 2, by omega⟩
          rw [yvv (k2 j (by omega)).1, yvv (m2 j (by omega)).1, e2 j (by omega)]
        · obtain ⟨j, rfl⟩ : ∃ j, i = 2 * j + 1 := ⟨i / 2, by omega⟩
          rw [yvv (k2 j (by omega)).2, yvv (m2 j (by omega)).2, e2 j (by omega)]
/-- two codings differ: so do the texts -/
theorem Cod.dif {cd cd' : Int32} {n k : Nat} {f g : Nat → Int32} {V V' : Cell} (h : Cod cd n f V) (h' : Cod cd' k g V') (hne : ¬ cd = cd') : ¬ SameT n f k g := by
  rintro ⟨rfl, e⟩
  rcases h with ⟨rfl, -, k2⟩ | ⟨rfl, -, -, j, hj, hw⟩
  · rcases h' with ⟨rfl, -⟩ | ⟨-, -, -, j, hj, hw⟩
    · exact hne rfl
    · exact (k2 j hj).2 (by rw [e j hj]; exact hw)
  · rcases h' with ⟨-, -, m2⟩ | ⟨rfl, -⟩
    · exact (m2 j hj).2 (by rw [← e j hj]; exact hw)
    · exact hne rfl
/-- an object of exactly C is an instance of C -/
theorem cinst {p : Program} {l : Launch} {e : Env} {R : Room} {s : State} {m : MethodId} {args : Array Value} {below : List Frame} {meth : Method} {c : Code} {T : State} {locs : List Loc} {cells slots : Nat} (X : Stand p l e R s m args below meth c T locs cells slots) (hexec : p.tables.exec = Jvm.exec) {own C : String} {index : Nat} (hown : s.vm.findClass own = some m.cls) (hlink : (Cond.classLink own index C).before args s = true) {a : Addr} (hE : Exact C a T)
    {g : JFrame} (hg : g.method = m) {rest : List Value} (hstack : g.stack = .ref a :: rest) (hdg : decode c.code g.pc = .ok (.instanceof index, 3)) :
    ∃ T', Stand p l e R s m args below meth c T' locs cells slots ∧ T'.heap = T.heap ∧ ∀ target, Steps p.tables e below (T'.setTop { g with pc := g.pc + 3, stack := .int 1 :: rest }) target → Steps p.tables e below (T.setTop g) target := by
  obtain ⟨cB, h1, D, h2, h3, h4⟩ := hE
  have h1' : s.vm.findClass C = some cB := by rw [← X.warmed.alike.findClass]; exact h1
  obtain ⟨vm', X', st⟩ := X.instanceofYes hexec hown hlink h2 h4 h1' (by rw [h3]; exact Jvm.Free.SB.assignable_self _ _) hg hstack hdg
  exact ⟨_, X', rfl, st⟩
theorem cself {p : Program} {l : Launch} {e : Env} {R : Room} {s : State} {m : MethodId} {args : Array Value} {below : List Frame} {meth : Method} {c : Code} {T : State} {locs : List Loc} {cells slots : Nat} (X : Stand p l e R s m args below meth c T locs cells slots) (hexec : p.tables.exec = Jvm.exec) {own C : String} {index : Nat} (hown : s.vm.findClass own = some m.cls) (hlink : (Cond.classLink own index C).before args s = true) {a : Addr} (hE : Exact C a T)
    {g : JFrame} (hg : g.method = m) {rest : List Value} (hstack : g.stack = .ref a :: rest) (hdg : decode c.code g.pc = .ok (.checkcast index, 3)) :
    ∃ T', Stand p l e R s m args below meth c T' locs cells slots ∧ T'.heap = T.heap ∧ ∀ target, Steps p.tables e below (T'.setTop { g with pc := g.pc + 3, stack := .ref a :: rest }) target → Steps p.tables e below (T.setTop g) target := by
  obtain ⟨cB, h1, D, h2, h3, h4⟩ := hE
  have h1' : s.vm.findClass C = some cB := by rw [← X.warmed.alike.findClass]; exact h1
  obtain ⟨vm', X', st⟩ := X.checkcastYes hexec hown hlink h2 h4 h1' (by rw [h3]; exact Jvm.Free.SB.assignable_self _ _) hg hstack hdg
  exact ⟨_, X', rfl, fun t h => st t (by rw [← hstack] at h; exact h)⟩
namespace SEq
def yN : MethodName := ⟨"java/lang/String", "equals", "(Ljava/lang/Object;)Z"⟩
abbrev yB : ByteArray := jdk_42_method_66_code
theorem d0 : decode yB 0 = .ok (.aload_n 0, 1) := by decide +kernel
theorem d1 : decode yB 1 = .ok (.aload_n 1, 1) := by decide +kernel
theorem d2 : decode yB 2 = .ok (.if_acmp (.ne) 5, 3) := by decide +kernel
theorem d5 : decode yB 5 = .ok (.iconst 1, 1) := by decide +kernel
theorem d6 : decode yB 6 = .ok (.ireturn, 1) := by decide +kernel
theorem d7 : decode yB 7 = .ok (.aload_n 1, 1) := by decide +kernel
theorem d8 : decode yB 8 = .ok (.instanceof 10, 3) := by decide +kernel
theorem d11 : decode yB 11 = .ok (.ifCond (.eq) 43, 3) := by decide +kernel
theorem d14 : decode yB 14 = .ok (.aload_n 1, 1) := by decide +kernel
theorem d15 : decode yB 15 = .ok (.checkcast 10, 3) := by decide +kernel
theorem d18 : decode yB 18 = .ok (.astore_n 2, 1) := by decide +kernel
theorem d19 : decode yB 19 = .ok (.getstatic 38, 3) := by decide +kernel
theorem d22 : decode yB 22 = .ok (.ifCond (.eq) 14, 3) := by decide +kernel
theorem d25 : decode yB 25 = .ok (.aload_n 0, 1) := by decide +kernel
theorem d26 : decode yB 26 = .ok (.getfield 15, 3) := by decide +kernel
theorem d29 : decode yB 29 = .ok (.aload_n 2, 1) := by decide +kernel
theorem d30 : decode yB 30 = .ok (.getfield 15, 3) := by decide +kernel
theorem d33 : decode yB 33 = .ok (.if_icmp (.ne) 21, 3) := by decide +kernel
theorem d36 : decode yB 36 = .ok (.aload_n 0, 1) := by decide +kernel
theorem d37 : decode yB 37 = .ok (.getfield 9, 3) := by decide +kernel
theorem d40 : decode yB 40 = .ok (.aload_n 2, 1) := by decide +kernel
theorem d41 : decode yB 41 = .ok (.getfield 9, 3) := by decide +kernel
theorem d44 : decode yB 44 = .ok (.invokestatic 541, 3) := by decide +kernel
theorem d47 : decode yB 47 = .ok (.ifCond (.eq) 7, 3) := by decide +kernel
theorem d50 : decode yB 50 = .ok (.iconst 1, 1) := by decide +kernel
theorem d51 : decode yB 51 = .ok (.goto 4, 3) := by decide +kernel
theorem d54 : decode yB 54 = .ok (.iconst 0, 1) := by decide +kernel
theorem d55 : decode yB 55 = .ok (.ireturn, 1) := by decide +kernel
def site : List Cond := [.classLink "java/lang/String" 10 "java/lang/String", .fieldLink "java/lang/String" 38 "java/lang/String" "COMPACT_STRINGS" "Z", .fieldLink "java/lang/String" 15 "java/lang/String" "coder" "B", .fieldLink "java/lang/String" 9 "java/lang/String" "value" "[B", LEq.tab] ++ staticW "java/lang/String" 541 LEq.yN
def tab : Cond := tabOf yN yB 3 (some .boolean) site
def P (x t : Addr) (V : Cell) (cd : Int32) (n : Nat) (f : Nat → Int32) (y t' : Addr) (V' : Cell) (cd' : Int32) (k : Nat) (g : Nat → Int32) (z : Int32) (args : Array Value) (s : State) : Prop := args = #[.ref x, .ref y] ∧ Txt x t V cd n f s ∧ Txt y t' V' cd' k g s ∧ StaticIs s "java/lang/String" "COMPACT_STRINGS" "Z" (.int z) ∧ ¬ z = 0
/-- equals(Object) of two Strings: whether the texts are the same -/
theorem law (l : Launch) (x t : Addr) (V : Cell) (cd : Int32) (n : Nat) (f : Nat → Int32) (y t' : Addr) (V' : Cell) (cd' : Int32) (k : Nat) (g : Nat → Int32) (z : Int32) : Law l yN 2 1 1 14 yB 3 (some .boolean) site (P x t V cd n f y t' V' cd' k g z) (Says01 (SameT n f k g)) [] 0 0 := by
  refine Law.of_walk (plainFor_of_name (by decide +kernel)) (by decide +kernel) (by decide +kernel) (by decide) (fun _ _ h => by rw [h.1]; rfl) (fun _ U U' hal hh h => ⟨h.1, h.2.1.mv hal hh, h.2.2.1.mv hal hh, h.2.2.2.1.there hal hh, h.2.2.2.2⟩) (fun r U U' V V' h1 hal h2 h => Says01.mv r U U' V V' h1 hal h2 h) ?_
  intro p e s m args below meth c s₁ X0 hexec hbytes hml hret hlk hnm hown hh0 W hP
  obtain ⟨rfl, hx, hy, s1, hz⟩ := hP
  have c1 : Steps p.tables e below (s₁.setTop (entryFrame m #[.ref x, .ref y] 3)) (s₁.setTop (mkF m 2 #[.val (.ref x), .val (.ref y), .unset] [.ref y, .ref x])) := Steps.trans (entry rfl) (by
    show Steps p.tables e below (s₁.setTop (mkF m 0 #[.val (.ref x), .val (.ref y), .unset] [])) _
    refine XS.aloadN X0.here hexec rfl (hb hbytes d0) rfl rfl ?_
    refine XS.aloadN X0.here hexec rfl (hb hbytes d1) rfl rfl ?_
    exact Steps.refl _)
  by_cases hxy : x = y
  · have c2 : Steps p.tables e below (s₁.setTop (entryFrame m #[.ref x, .ref y] 3)) (s₁.setTop (mkF m 6 #[.val (.ref x), .val (.ref y), .unset] [.int 1])) := c1.trans (by
      refine acmpNo X0.here hexec rfl (hb hbytes d2) rfl rfl rfl (by simp [acmp, hxy]) ?_
      refine iconstV X0.here hexec rfl 1 (hb hbytes d5) (by decide) ?_
      exact Steps.refl _)
    subst hxy
    have ec : cd = cd' := by
      obtain ⟨D, fd, a1, a2, a3⟩ := hx.2.2.1
      obtain ⟨D', fd', b1, b2, b3⟩ := hy.2.2.1
      cases a1.symm.trans b1
      obtain ⟨q1, q2, q3, q4⟩ := a2.1
      obtain ⟨r1, r2, r3, r4⟩ := b2.1
      cases q4.symm.trans r4
      cases a3.symm.trans b3; rfl
    have et : t = t' := by
      obtain ⟨D, fd, a1, a2, a3⟩ := hx.2.1
      obtain ⟨D', fd', b1, b2, b3⟩ := hy.2.1
      cases a1.symm.trans b1
      obtain ⟨q1, q2, q3, q4⟩ := a2.1
      obtain ⟨r1, r2, r3, r4⟩ := b2.1
      cases q4.symm.trans r4
      cases a3.symm.trans b3; rfl
    subst ec et
    have ev : V = V' := by cases hx.2.2.2.1.1.symm.trans hy.2.2.2.1.1; rfl
    subst ev
    have hs : SameT n f k g := (Cod.eqv hx.2.2.2.2.1 hy.2.2.2.2.1 hx.2.2.2.2.2 hy.2.2.2.2.2).mp ⟨rfl, fun _ _ => rfl⟩
    exact ⟨s₁, some (.int 1), _, _, _, X0, rfl, rfl, rfl, (fun h => by cases h), ⟨1, rfl, hh0, Or.inl ⟨rfl, hs⟩⟩, fun fs hl => c2.trans (X0.ireturnOut hexec hret rfl (Or.inr (Or.inl rfl)) (hb hbytes d6) hl)⟩
  · have c2 : Steps p.tables e below (s₁.setTop (entryFrame m #[.ref x, .ref y] 3)) (s₁.setTop (mkF m 8 #[.val (.ref x), .val (.ref y), .unset] [.ref y])) := c1.trans (by
      refine acmpYes X0.here hexec rfl (pc0 := 2) rfl (hb hbytes d2) rfl rfl rfl (by simp [acmp, hxy]) (by decide) rfl ?_
      refine XS.aloadN X0.here hexec rfl (hb hbytes d7) rfl rfl ?_
      exact Steps.refl _)
    obtain ⟨T3, X3, q3, st3⟩ := cinst X0 hexec hown (wk W (.classLink "java/lang/String" 10 "java/lang/String")) (hy.mv X0.warmed.alike hh0).1 (g := (mkF m 8 #[.val (.ref x), .val (.ref y), .unset] [.ref y])) rfl (rest := []) rfl (hb hbytes d8)
    have hh3 := q3.trans hh0
    have c4 : Steps p.tables e below (s₁.setTop (entryFrame m #[.ref x, .ref y] 3)) (T3.setTop (mkF m 15 #[.val (.ref x), .val (.ref y), .unset] [.ref y])) := (c2.trans (st3 _ (Steps.refl _))).trans (by
      refine XS.ifNo X3.here hexec rfl (hb hbytes d11) rfl (i0_eq_f (by decide)) ?_
      refine XS.aloadN X3.here hexec rfl (hb hbytes d14) rfl rfl ?_
      exact Steps.refl _)
    obtain ⟨T5, X5, q5, st5⟩ := cself X3 hexec hown (wk W (.classLink "java/lang/String" 10 "java/lang/String")) (hy.mv X3.warmed.alike hh3).1 (g := (mkF m 15 #[.val (.ref x), .val (.ref y), .unset] [.ref y])) rfl (rest := []) rfl (hb hbytes d15)
    have hh5 := q5.trans hh3
    have c6 : Steps p.tables e below (s₁.setTop (entryFrame m #[.ref x, .ref y] 3)) (T5.setTop (mkF m 19 #[.val (.ref x), .val (.ref y), .val (.ref y)] [])) := (c4.trans (st5 _ (Steps.refl _))).trans (by
      refine XS.astoreN X5.here hexec rfl (hb hbytes d18) rfl rfl rfl ?_
      exact Steps.refl _)
    obtain ⟨T7, X7, q7, st7⟩ := X5.sget hexec hown (wk W (.fieldLink "java/lang/String" 38 "java/lang/String" "COMPACT_STRINGS" "Z")) s1 (fun _ _ h => by rw [hh5]; exact h) (g := (mkF m 19 #[.val (.ref x), .val (.ref y), .val (.ref y)] [])) rfl (hb hbytes d19)
    have hh7 := q7.trans hh5
    have c8 : Steps p.tables e below (s₁.setTop (entryFrame m #[.ref x, .ref y] 3)) (T7.setTop (mkF m 26 #[.val (.ref x), .val (.ref y), .val (.ref y)] [.ref x])) := (c6.trans (st7 _ (Steps.refl _))).trans (by
      refine XS.ifNo X7.here hexec rfl (hb hbytes d22) rfl (i0_eq_f hz) ?_
      refine XS.aloadN X7.here hexec rfl (hb hbytes d25) rfl rfl ?_
      exact Steps.refl _)
    obtain ⟨T9, X9, q9, st9⟩ := X7.hget hexec hown (wk W (.fieldLink "java/lang/String" 15 "java/lang/String" "coder" "B")) (hx.mv X7.warmed.alike hh7).2.2.1 (g := (mkF m 26 #[.val (.ref x), .val (.ref y), .val (.ref y)] [.ref x])) rfl (rest := []) rfl (hb hbytes d26)
    have hh9 := q9.trans hh7
    have c10 : Steps p.tables e below (s₁.setTop (entryFrame m #[.ref x, .ref y] 3)) (T9.setTop (mkF m 30 #[.val (.ref x), .val (.ref y), .val (.ref y)] [.ref y, .int cd])) := (c8.trans (st9 _ (Steps.refl _))).trans (by
      refine XS.aloadN X9.here hexec rfl (hb hbytes d29) rfl rfl ?_
      exact Steps.refl _)
    obtain ⟨T11, X11, q11, st11⟩ := X9.hget hexec hown (wk W (.fieldLink "java/lang/String" 15 "java/lang/String" "coder" "B")) (hy.mv X9.warmed.alike hh9).2.2.1 (g := (mkF m 30 #[.val (.ref x), .val (.ref y), .val (.ref y)] [.ref y, .int cd])) rfl (rest := [.int cd]) rfl (hb hbytes d30)
    have hh11 := q11.trans hh9
    have c12 : Steps p.tables e below (s₁.setTop (entryFrame m #[.ref x, .ref y] 3)) (T11.setTop (mkF m 33 #[.val (.ref x), .val (.ref y), .val (.ref y)] [.int cd', .int cd])) := c10.trans (st11 _ (Steps.refl _))
    by_cases hcd : cd = cd'
    · subst hcd
      have c13 : Steps p.tables e below (s₁.setTop (entryFrame m #[.ref x, .ref y] 3)) (T11.setTop (mkF m 37 #[.val (.ref x), .val (.ref y), .val (.ref y)] [.ref x])) := c12.trans (by
        refine XS.icmpNo X11.here hexec rfl (hb hbytes d33) rfl (ii_ne_f rfl) ?_
        refine XS.aloadN X11.here hexec rfl (hb hbytes d36) rfl rfl ?_
        exact Steps.refl _)
      obtain ⟨T14, X14, q14, st14⟩ := X11.hget hexec hown (wk W (.fieldLink "java/lang/String" 9 "java/lang/String" "value" "[B")) (hx.mv X11.warmed.alike hh11).2.1 (g := (mkF m 37 #[.val (.ref x), .val (.ref y), .val (.ref y)] [.ref x])) rfl (rest := []) rfl (hb hbytes d37)
      have hh14 := q14.trans hh11
      have c15 : Steps p.tables e below (s₁.setTop (entryFrame m #[.ref x, .ref y] 3)) (T14.setTop (mkF m 41 #[.val (.ref x), .val (.ref y), .val (.ref y)] [.ref y, .ref t])) := (c13.trans (st14 _ (Steps.refl _))).trans (by
        refine XS.aloadN X14.here hexec rfl (hb hbytes d40) rfl rfl ?_
        exact Steps.refl _)
      obtain ⟨T16, X16, q16, st16⟩ := X14.hget hexec hown (wk W (.fieldLink "java/lang/String" 9 "java/lang/String" "value" "[B")) (hy.mv X14.warmed.alike hh14).2.1 (g := (mkF m 41 #[.val (.ref x), .val (.ref y), .val (.ref y)] [.ref y, .ref t])) rfl (rest := [.ref t]) rfl (hb hbytes d41)
      have hh16 := q16.trans hh14
      have c17 : Steps p.tables e below (s₁.setTop (entryFrame m #[.ref x, .ref y] 3)) (T16.setTop (mkF m 44 #[.val (.ref x), .val (.ref y), .val (.ref y)] [.ref t', .ref t])) := c15.trans (st16 _ (Steps.refl _))
      obtain ⟨v18, T18, X18, E18, g18⟩ := X16.callS hexec (LEq.law l t V t' V') hown (wks W (staticW "java/lang/String" 541 LEq.yN)) (wk W LEq.tab) (W := 0) (Nat.le_of_ble_eq_true rfl) (Nat.le_of_ble_eq_true rfl) (Nat.le_refl _) (Nat.le_refl _) (g := (mkF m 44 #[.val (.ref x), .val (.ref y), .val (.ref y)] [.ref t', .ref t])) rfl (by rw [hml]; rfl) c17 (argsL := [.ref t, .ref t']) (rest := []) rfl rfl (by show 2 * 0 + 0 ≤ _; decide) (hb hbytes d44) (⟨rfl, hx.2.2.2.1.mv X16.warmed.alike hh16, hx.2.2.2.2.1.ty, hy.2.2.2.1.mv X16.warmed.alike hh16, hy.2.2.2.2.1.ty⟩)
      obtain ⟨v, rfl, q18, hv⟩ := E18
      have iff := Cod.eqv hx.2.2.2.2.1 hy.2.2.2.2.1 hx.2.2.2.2.2 hy.2.2.2.2.2
      rcases hv with ⟨rfl, he⟩ | ⟨rfl, he⟩
      · have c19 : Steps p.tables e below (s₁.setTop (entryFrame m #[.ref x, .ref y] 3)) (T18.setTop (mkF m 55 #[.val (.ref x), .val (.ref y), .val (.ref y)] [.int 1])) := Steps.trans g18 (by
          refine XS.ifNo X18.here hexec rfl (hb hbytes d47) rfl (i0_eq_f (by decide)) ?_
          refine iconstV X18.here hexec rfl 1 (hb hbytes d50) (by decide) ?_
          refine XS.goto X18.here hexec rfl (pc0 := 51) rfl (hb hbytes d51) (by decide) rfl ?_
          exact Steps.refl _)
        exact ⟨T18, some (.int 1), _, _, _, X18, rfl, rfl, rfl, (fun h => by cases h), ⟨1, rfl, q18.trans hh16, Or.inl ⟨rfl, iff.mp he⟩⟩, fun fs hl => c19.trans (X18.ireturnOut hexec hret rfl (Or.inr (Or.inl rfl)) (hb hbytes d55) hl)⟩
      · have c19 : Steps p.tables e below (s₁.setTop (entryFrame m #[.ref x, .ref y] 3)) (T18.setTop (mkF m 55 #[.val (.ref x), .val (.ref y), .val (.ref y)] [.int 0])) := Steps.trans g18 (by
          refine XS.ifYes X18.here hexec rfl (pc0 := 47) rfl (hb hbytes d47) rfl (i0_eq_t rfl) (by decide) rfl ?_
          refine iconstV X18.here hexec rfl 0 (hb hbytes d54) (by decide) ?_
          exact Steps.refl _)
        exact ⟨T18, some (.int 0), _, _, _, X18, rfl, rfl, rfl, (fun h => by cases h), ⟨0, rfl, q18.trans hh16, Or.inr ⟨rfl, fun q => he (iff.mpr q)⟩⟩, fun fs hl => c19.trans (X18.ireturnOut hexec hret rfl (Or.inr (Or.inl rfl)) (hb hbytes d55) hl)⟩
    · have c13 : Steps p.tables e below (s₁.setTop (entryFrame m #[.ref x, .ref y] 3)) (T11.setTop (mkF m 55 #[.val (.ref x), .val (.ref y), .val (.ref y)] [.int 0])) := c12.trans (by
        refine XS.icmpYes X11.here hexec rfl (pc0 := 33) rfl (hb hbytes d33) rfl (ii_ne_t hcd) (by decide) rfl ?_
        refine iconstV X11.here hexec rfl 0 (hb hbytes d54) (by decide) ?_
        exact Steps.refl _)
      exact ⟨T11, some (.int 0), _, _, _, X11, rfl, rfl, rfl, (fun h => by cases h), ⟨0, rfl, hh11, Or.inr ⟨rfl, Cod.dif hx.2.2.2.2.1 hy.2.2.2.2.1 hcd⟩⟩, fun fs hl => c13.trans (X11.ireturnOut hexec hret rfl (Or.inr (Or.inl rfl)) (hb hbytes d55) hl)⟩
theorem pays {l : Launch} {R : Room} {p : Program} {e : Env} {below : List Frame} {s : State} {sargs : Array Value} {len W : Nat} (x t : Addr) (V : Cell) (cd : Int32) (n : Nat) (f : Nat → Int32) (y t' : Addr) (V' : Cell) (cd' : Int32) (k : Nat) (g : Nat → Int32) (z : Int32) (htab : tab.before sargs s = true) (hfr : 2 ≤ R.frames) (hlo : W + 28 ≤ R.locals) :
    Back l R p e below s sargs yN len W (fun A₁ a₁ => A₁.cells + 0 ≤ R.cells ∧ A₁.slots + 0 ≤ R.slots ∧ P x t V cd n f y t' V' cd' k g z a₁ A₁.U) (fun A₁ _ v₁ B₁ => Says01 (SameT n f k g) v₁ A₁.U B₁.U ∧ B₁.locs = A₁.locs ++ [] ∧ B₁.cells = A₁.cells + 0 ∧ B₁.slots = A₁.slots + 0) :=
  (law l x t V cd n f y t' V' cd' k g z).pays htab hfr (by omega)
end SEq
end StrChars
namespace StrChars.Road
open Jvm Sem ClassFile Op Lib Jvm.Stand Jvm.Free Jvm.Free.XT
open Jvm.Lib.Cold (StaticIs)
/-- the words of String.equals(Object) -/
abbrev wordsEq : List Jvm.Cond := [.code SEq.yN SEq.yB 3 (some .boolean), .initialized ST, .classLink ST 10 ST, .fieldLink ST 38 ST "COMPACT_STRINGS" "Z", .fieldLink ST 15 ST "coder" "B", .fieldLink ST 9 ST "value" "[B", .methodLink ST 541 LEq.yN, .static LEq.yN, .code LEq.yN LEq.yB 3 (some .boolean), .initialized "java/lang/StringLatin1"]
theorem tabEq_of {a : Array Value} {s : State} (h : ∀ w ∈ wordsEq, w.before a s = true) : SEq.tab.before a s = true := by
  have hl : LEq.tab.before a s = true := unparts (wk h (.code LEq.yN LEq.yB 3 (some .boolean))) (wks h (.initialized LEq.yN.cls :: LEq.site))
  have q := consq hl h
  exact unparts (wk q (.code SEq.yN SEq.yB 3 (some .boolean))) (wks q (.initialized SEq.yN.cls :: SEq.site))
theorem movedEq {Z s : State} {a0 args : Array Value} (hZ : Z.Warmed39 s.vm) (hw : ∀ d ∈ wordsEq, d.before a0 Z = true) : ∀ d ∈ wordsEq, d.before args s = true := fun d hd => by
  have t : ∀ d ∈ wordsEq, (d.onTables && d.keepsFace) = true := by decide +kernel
  exact RoadKit.mv hZ (hw d hd) (t d hd)
/-- the road's facts of a String, as the laws ask it -/
theorem txt_of {Z U : State} {a0 : Array Value} {kI : Nat} (wi : (Jvm.Cond.instantiable ST kI).before a0 Z = true) (al : Z.vm.Alike U.vm) {x t : Addr} {kb : ClassId} {cs : List Int32} {cd N2 : Int32} {vs : List Value} (E : RoadKit.Exa Z U.heap x ST) (V : RoadKit.Fld Z U.heap x ST "value" "[B" (.ref t)) (C : RoadKit.Fld Z U.heap x ST "coder" "B" (.int cd)) (K : RoadKit.Arv Z U.heap t kb .byte N2 vs (.int 0)) (hc : CodA cs cd N2 vs) (hb : ∀ c ∈ cs, ¬ c < 0 ∧ ¬ (65535 : Int32) < c) (l2 : cs.length ≤ 4000) :
    ∃ A, Txt x t A cd cs.length (fun j => cs.getD j 0) U := by
  obtain ⟨A, K1, K2, K3, K4, K5, K6⟩ := K
  have hcod := hc.cod (by omega) K3 K5
  obtain ⟨D, fV, fC, hB, F1, F2, g1, g2, -, -⟩ := strObj wi al E V C
  exact ⟨A, ⟨_, hB.2.2.1, D, hB.1, rfl, by cases q : D.vm <;> first | rfl | exact absurd q (hB.2.1.2 _)⟩, Has.of hB F1 g1, Has.of hB F2 g2, ⟨K1.1, State.isArrayOf_alike al K1.2.1, K1.2.2, by rcases hcod with ⟨-, q, -⟩ | ⟨-, q, -⟩ <;> omega⟩, hcod, fun j hj => by
    have e : cs.getD j 0 = cs[j] := by simp [List.getD_eq_getElem?_getD, hj]
    show ¬ cs.getD j 0 < 0 ∧ ¬ 65535 < cs.getD j 0
    rw [e]; exact hb _ (List.getElem_mem _)⟩
theorem same_list (cs ds : List Int32) : SameT cs.length (fun j => cs.getD j 0) ds.length (fun j => ds.getD j 0) ↔ cs = ds := by
  constructor
  · rintro ⟨e, q⟩
    refine List.ext_getElem e fun j h1 h2 => ?_
    have := q j h1
    simpa [List.getD_eq_getElem?_getD, h1, h2] using this
  · rintro rfl
    exact ⟨rfl, fun _ _ => rfl⟩
/-- **equals(Object) OF TWO SUCH STRINGS**: 1 just where the chars are the same -/
theorem eqW {p : Program} {l : Launch} {e : Env} {R : Room} {s : State} {args : Array Value} {below : List Frame} {len W : Nat} {Z : State} {a0 : Array Value} {h : Heap} (hZ : Z.Warmed39 s.vm) (hw : ∀ d ∈ wordsEq, d.before a0 Z = true) {kI : Nat} (wi : (Jvm.Cond.instantiable ST kI).before a0 Z = true)
    {x t : Addr} {kb : ClassId} {cs : List Int32} {cd N2 : Int32} {vs : List Value} (E : RoadKit.Exa Z h x ST) (V : RoadKit.Fld Z h x ST "value" "[B" (.ref t)) (C : RoadKit.Fld Z h x ST "coder" "B" (.int cd)) (K : RoadKit.Arv Z h t kb .byte N2 vs (.int 0)) (hc : CodA cs cd N2 vs) (hb : ∀ c ∈ cs, ¬ c < 0 ∧ ¬ (65535 : Int32) < c) (l2 : cs.length ≤ 4000)
    {y t' : Addr} {kb' : ClassId} {ds : List Int32} {cd' N2' : Int32} {vs' : List Value} (E' : RoadKit.Exa Z h y ST) (V' : RoadKit.Fld Z h y ST "value" "[B" (.ref t')) (C' : RoadKit.Fld Z h y ST "coder" "B" (.int cd')) (K' : RoadKit.Arv Z h t' kb' .byte N2' vs' (.int 0)) (hc' : CodA ds cd' N2' vs') (hb' : ∀ c ∈ ds, ¬ c < 0 ∧ ¬ (65535 : Int32) < c) (l2' : ds.length ≤ 4000)
    {z : Int32} (S : RoadKit.Sta Z h ST "COMPACT_STRINGS" "Z" (.int z)) (hz : ¬ z = 0) (hfr : 2 ≤ R.frames) (hlo : W + 28 ≤ R.locals) :
    Back l R p e below s args (⟨"java/lang/String", "equals", "(Ljava/lang/Object;)Z"⟩ : MethodName) len W (fun P a => a = #[.ref x, .ref y] ∧ P.U.heap = h ∧ P.cells + 0 ≤ R.cells ∧ P.slots + 0 ≤ R.slots)
      (fun P _ v B => ∃ L, (((v = some (.int 1) ∧ cs = ds) ∨ (v = some (.int 0) ∧ ¬ cs = ds)) ∧ L = [] ∧ B.U.heap = h) ∧ B.locs = P.locs ++ L ∧ B.cells = P.cells + 0 ∧ B.slots = P.slots + 0) := by
  intro m meth c P g ig mk a X hg hsize hdg hW hn hp'
  obtain ⟨rfl, rfl, r1, r2⟩ := hp'
  have al : Z.vm.Alike P.U.vm := hZ.alike.trans X.warmed.alike
  obtain ⟨A, hx⟩ := txt_of wi al E V C K hc hb l2
  obtain ⟨A', hy⟩ := txt_of wi al E' V' C' K' hc' hb' l2'
  obtain ⟨v, B, X', ⟨⟨w, hv, hh, hq⟩, hl, hk, hs⟩, st⟩ := SEq.pays x t A cd cs.length (fun j => cs.getD j 0) y t' A' cd' ds.length (fun j => ds.getD j 0) z (tabEq_of (movedEq hZ hw)) hfr hlo m meth c P g ig mk _ X hg hsize hdg hW hn ⟨r1, r2, rfl, hx, hy, sta_is al S, hz⟩
  refine ⟨v, B, X', ⟨[], ⟨?_, rfl, hh⟩, hl, hk, hs⟩, st⟩
  rcases hq with ⟨rfl, q⟩ | ⟨rfl, q⟩
  · exact Or.inl ⟨hv, (same_list cs ds).mp q⟩
  · exact Or.inr ⟨hv, fun e => q ((same_list cs ds).mpr e)⟩
end StrChars.Road
namespace StrChars
open Jvm Sem ClassFile Op Lib Jvm.Stand Jvm.Free.XT Jvm.Free.ALB Jvm.Free.JM Jvm.Free
open Jvm.Lib.Cold (StaticIs)
namespace ChN
def yN : MethodName := ⟨"java/lang/String", "charAt", "(I)C"⟩
abbrev yB : ByteArray := jdk_42_method_56_code
theorem d0 : decode yB 0 = .ok (.aload_n 0, 1) := by decide +kernel
theorem d1 : decode yB 1 = .ok (.invokevirtual 492, 3) := by decide +kernel
theorem d4 : decode yB 4 = .ok (.ifCond (.eq) 12, 3) := by decide +kernel
theorem d7 : decode yB 7 = .ok (.aload_n 0, 1) := by decide +kernel
theorem d8 : decode yB 8 = .ok (.getfield 9, 3) := by decide +kernel
theorem d11 : decode yB 11 = .ok (.iload_n 1, 1) := by decide +kernel
theorem d12 : decode yB 12 = .ok (.invokestatic 495, 3) := by decide +kernel
theorem d15 : decode yB 15 = .ok (.ireturn, 1) := by decide +kernel
def site : List Cond := [.fieldLink "java/lang/String" 9 "java/lang/String" "value" "[B", IsL.tab, LChA.tab] ++ virtW "java/lang/String" 492 "java/lang/String" IsL.yN IsL.yN ++ staticW "java/lang/String" 495 LChA.yN
def tab : Cond := tabOf yN yB 2 (some .char) site
def P (x t : Addr) (V : Cell) (n : Nat) (f : Nat → Int32) (z : Int32) (fm : Value) (i : Nat) (args : Array Value) (s : State) : Prop := args = #[.ref x, .int (Int32.ofNat i)] ∧ Txt x t V 0 n f s ∧ i < n ∧ StaticIs s "java/lang/String" "COMPACT_STRINGS" "Z" (.int z) ∧ ¬ z = 0 ∧ StaticIs s "jdk/internal/util/Preconditions" "SIOOBE_FORMATTER" "Ljava/util/function/BiFunction;" fm ∧ fm.isRef = true
def E (f : Nat → Int32) (i : Nat) (r : Option Value) (s u : State) : Prop := XT.PureE (some (.int (f i))) r s u
/-- charAt(i) of a Latin-1 String of n chars, i < n: f i -/
theorem law (l : Launch) (x t : Addr) (V : Cell) (n : Nat) (f : Nat → Int32) (z : Int32) (fm : Value) (i : Nat) : Law l yN 2 1 3 40 yB 2 (some .char) site (P x t V n f z fm i) (E f i) [] 0 0 := by
  refine Law.of_walk (plainFor_of_name (by decide +kernel)) (by decide +kernel) (by decide +kernel) (by decide) (fun _ _ h => by rw [h.1]; rfl) (fun _ U U' hal hh h => ⟨h.1, h.2.1.mv hal hh, h.2.2.1, h.2.2.2.1.there hal hh, h.2.2.2.2.1, h.2.2.2.2.2.1.there hal hh, h.2.2.2.2.2.2⟩) (fun r U U' V V' h1 hal h2 h => XT.PureE.mv r U U' V V' h1 hal h2 h) ?_
  intro p e s m args below meth c s₁ X0 hexec hbytes hml hret hlk hnm hown hh0 W hP
  obtain ⟨rfl, hx, hi, s1, hz, s3, rf⟩ := hP
  have v31 := hx.2.2.2.1.2.2.2
  have hr := hx.2.2.2.2.2 i hi
  have hx0 := hx.mv X0.warmed.alike hh0
  have c1 : Steps p.tables e below (s₁.setTop (entryFrame m #[.ref x, .int (Int32.ofNat i)] 2)) (s₁.setTop (mkF m 1 #[.val (.ref x), .val (.int (Int32.ofNat i))] [.ref x])) := Steps.trans (entry rfl) (by
    show Steps p.tables e below (s₁.setTop (mkF m 0 #[.val (.ref x), .val (.int (Int32.ofNat i))] [])) _
    refine XS.aloadN X0.here hexec rfl (hb hbytes d0) rfl rfl ?_
    exact Steps.refl _)
  obtain ⟨v2, T2, X2, E2, g2⟩ := X0.callV hexec (IsL.law l x 0 z) hown (wks W (virtW "java/lang/String" 492 "java/lang/String" IsL.yN IsL.yN)) rfl (by decide) (wk W IsL.tab) (W := 0) (Nat.le_of_ble_eq_true rfl) (Nat.le_of_ble_eq_true rfl) (Nat.le_refl _) (Nat.le_refl _) (hx0.1.fc X0.warmed.alike) hx0.1.is (g := (mkF m 1 #[.val (.ref x), .val (.int (Int32.ofNat i))] [.ref x])) rfl (by rw [hml]; rfl) c1 (argsL := []) (rest := []) rfl rfl (by show 2 * 0 + 0 ≤ _; decide) (hb hbytes d1) (⟨rfl, hx0.2.2.1, hx.2.2.2.2.1.cd, s1.there X0.warmed.alike hh0, hz⟩)
  obtain ⟨rfl, q2⟩ := E2
  have hh2 := q2.trans hh0
  have hx2 := hx.mv X2.warmed.alike hh2
  obtain ⟨-, k1, k2⟩ | ⟨k0, -⟩ := hx.2.2.2.2.1
  · have c3 : Steps p.tables e below (s₁.setTop (entryFrame m #[.ref x, .int (Int32.ofNat i)] 2)) (T2.setTop (mkF m 8 #[.val (.ref x), .val (.int (Int32.ofNat i))] [.ref x])) := Steps.trans g2 (by
      refine XS.ifNo X2.here hexec rfl (hb hbytes d4) rfl (i0_eq_f (by decide)) ?_
      refine XS.aloadN X2.here hexec rfl (hb hbytes d7) rfl rfl ?_
      exact Steps.refl _)
    obtain ⟨T4, X4, q4, st4⟩ := X2.hget hexec hown (wk W (.fieldLink "java/lang/String" 9 "java/lang/String" "value" "[B")) hx2.2.1 (g := (mkF m 8 #[.val (.ref x), .val (.int (Int32.ofNat i))] [.ref x])) rfl (rest := []) rfl (hb hbytes d8)
    have hh4 := q4.trans hh2
    have c5 : Steps p.tables e below (s₁.setTop (entryFrame m #[.ref x, .int (Int32.ofNat i)] 2)) (T4.setTop (mkF m 12 #[.val (.ref x), .val (.int (Int32.ofNat i))] [.int (Int32.ofNat i), .ref t])) := (c3.trans (st4 _ (Steps.refl _))).trans (by
      refine XS.iloadN X4.here hexec rfl (hb hbytes d11) rfl ?_
      exact Steps.refl _)
    obtain ⟨v6, T6, X6, E6, g6⟩ := X4.callS hexec (LChA.law l t V i (lo8 (f i)) fm) hown (wks W (staticW "java/lang/String" 495 LChA.yN)) (wk W LChA.tab) (W := 0) (Nat.le_of_ble_eq_true rfl) (Nat.le_of_ble_eq_true rfl) (Nat.le_refl _) (Nat.le_refl _) (g := (mkF m 12 #[.val (.ref x), .val (.int (Int32.ofNat i))] [.int (Int32.ofNat i), .ref t])) rfl (by rw [hml]; rfl) c5 (argsL := [.ref t, .int (Int32.ofNat i)]) (rest := []) rfl rfl (by show 2 * 0 + 0 ≤ _; decide) (hb hbytes d12) (⟨rfl, hx.2.2.2.1.mv X4.warmed.alike hh4, (k2 i hi).1, s3.there X4.warmed.alike hh4, rf⟩)
    obtain ⟨rfl, q6⟩ := E6
    rw [chr8_lo8 hr.1 (k2 i hi).2] at g6
    exact ⟨T6, some (.int (f i)), _, _, _, X6, rfl, rfl, rfl, (fun h => by cases h), ⟨rfl, q6.trans hh4⟩, fun fs hl => Steps.trans g6 (X6.ireturnOut hexec hret (narrow_ch hr.1 hr.2) (Or.inr (Or.inr (Or.inr (Or.inl rfl)))) (hb hbytes d15) hl)⟩
  · exact absurd k0 (by decide)
theorem pays {l : Launch} {R : Room} {p : Program} {e : Env} {below : List Frame} {s : State} {sargs : Array Value} {len W : Nat} (x t : Addr) (V : Cell) (n : Nat) (f : Nat → Int32) (z : Int32) (fm : Value) (i : Nat) (htab : tab.before sargs s = true) (hfr : 4 ≤ R.frames) (hlo : W + 53 ≤ R.locals) :
    Back l R p e below s sargs yN len W (fun A₁ a₁ => A₁.cells + 0 ≤ R.cells ∧ A₁.slots + 0 ≤ R.slots ∧ P x t V n f z fm i a₁ A₁.U) (fun A₁ _ v₁ B₁ => E f i v₁ A₁.U B₁.U ∧ B₁.locs = A₁.locs ++ [] ∧ B₁.cells = A₁.cells + 0 ∧ B₁.slots = A₁.slots + 0) :=
  (law l x t V n f z fm i).pays htab hfr (by omega)
end ChN
end StrChars
namespace StrChars.Road
open Jvm Sem ClassFile Op Lib Jvm.Stand Jvm.Free Jvm.Free.XT
open Jvm.Lib.Cold (StaticIs)
/-- the words of String.charAt(int), the Latin-1 road alone -/
abbrev wordsChN : List Jvm.Cond := [.code ChN.yN ChN.yB 2 (some .char), .initialized ST, .fieldLink ST 9 ST "value" "[B", .fieldLink ST 38 ST "COMPACT_STRINGS" "Z", .fieldLink ST 15 ST "coder" "B", .code IsL.yN IsL.yB 1 (some .boolean), .methodLink ST 492 IsL.yN, .declares IsL.yN, .selects ST IsL.yN IsL.yN, .instanceMethod IsL.yN,
  .methodLink ST 495 LChA.yN, .static LChA.yN, .code LChA.yN LChA.yB 2 (some .char), .initialized "java/lang/StringLatin1", .methodLink "java/lang/StringLatin1" 9 JO.Str_checkIndex.yN, .static JO.Str_checkIndex.yN, .code JO.Str_checkIndex.yN JO.Str_checkIndex.yB 2 none,
  .fieldLink ST 1053 "jdk/internal/util/Preconditions" "SIOOBE_FORMATTER" "Ljava/util/function/BiFunction;", .methodLink ST 1059 JC.PreCheck.yN, .static JC.PreCheck.yN, .code JC.PreCheck.yN JC.PreCheck.yB 3 (some .int), .initialized "jdk/internal/util/Preconditions"]
theorem tabChN_of {a : Array Value} {s : State} (h : ∀ w ∈ wordsChN, w.before a s = true) : ChN.tab.before a s = true := by
  have hp : JC.PreCheck.tab.before a s = true := unparts (wk h (.code JC.PreCheck.yN JC.PreCheck.yB 3 (some .int))) (wks h (.initialized JC.PreCheck.yN.cls :: JC.PreCheck.site))
  have qk := consq hp h
  have hk : JO.Str_checkIndex.tab.before a s = true := unparts (wk qk (.code JO.Str_checkIndex.yN JO.Str_checkIndex.yB 2 none)) (wks qk (.initialized JO.Str_checkIndex.yN.cls :: JO.Str_checkIndex.site))
  have ql := consq hk h
  have hl : LChA.tab.before a s = true := unparts (wk ql (.code LChA.yN LChA.yB 2 (some .char))) (wks ql (.initialized LChA.yN.cls :: LChA.site))
  have hi : IsL.tab.before a s = true := unparts (wk h (.code IsL.yN IsL.yB 1 (some .boolean))) (wks h (.initialized IsL.yN.cls :: IsL.site))
  have q := consq hi (consq hl h)
  exact unparts (wk q (.code ChN.yN ChN.yB 2 (some .char))) (wks q (.initialized ChN.yN.cls :: ChN.site))
theorem movedChN {Z s : State} {a0 args : Array Value} (hZ : Z.Warmed39 s.vm) (hw : ∀ d ∈ wordsChN, d.before a0 Z = true) : ∀ d ∈ wordsChN, d.before args s = true := fun d hd => by
  have t : ∀ d ∈ wordsChN, (d.onTables && d.keepsFace) = true := by decide +kernel
  exact RoadKit.mv hZ (hw d hd) (t d hd)
/-- **charAt(i) OF A LATIN-1 STRING**, i < n: the char -/
theorem chN {p : Program} {l : Launch} {e : Env} {R : Room} {s : State} {args : Array Value} {below : List Frame} {len W : Nat} {Z : State} {a0 : Array Value} {h : Heap} (hZ : Z.Warmed39 s.vm) (hw : ∀ d ∈ wordsChN, d.before a0 Z = true) {kI : Nat} (wi : (Jvm.Cond.instantiable ST kI).before a0 Z = true)
    {x t : Addr} {kb : ClassId} {cs : List Int32} {N2 z : Int32} {vs : List Value} {fm : Value} {i : Nat} {j : Int32} (E : RoadKit.Exa Z h x ST) (V : RoadKit.Fld Z h x ST "value" "[B" (.ref t)) (C : RoadKit.Fld Z h x ST "coder" "B" (.int 0)) (K : RoadKit.Arv Z h t kb .byte N2 vs (.int 0)) (hc : CodA cs 0 N2 vs) (hb : ∀ c ∈ cs, ¬ c < 0 ∧ ¬ (65535 : Int32) < c)
    (S : RoadKit.Sta Z h ST "COMPACT_STRINGS" "Z" (.int z)) (hz : ¬ z = 0) (F : RoadKit.Sta Z h "jdk/internal/util/Preconditions" "SIOOBE_FORMATTER" "Ljava/util/function/BiFunction;" fm) (rf : fm.isRef = true) (l2 : cs.length ≤ 4000) (hi : i < cs.length) (hj : j = Int32.ofNat i) (hfr : 4 ≤ R.frames) (hlo : W + 53 ≤ R.locals) :
    Back l R p e below s args (⟨"java/lang/String", "charAt", "(I)C"⟩ : MethodName) len W (fun P a => a = #[.ref x, .int j] ∧ P.U.heap = h ∧ P.cells + 0 ≤ R.cells ∧ P.slots + 0 ≤ R.slots)
      (fun P _ v B => ∃ L, (v = some (.int (cs.getD i 0)) ∧ L = [] ∧ B.U.heap = h) ∧ B.locs = P.locs ++ L ∧ B.cells = P.cells + 0 ∧ B.slots = P.slots + 0) := by
  subst hj
  intro m meth c P g ig mk a X hg hsize hdg hW hn hp'
  obtain ⟨rfl, rfl, r1, r2⟩ := hp'
  have al : Z.vm.Alike P.U.vm := hZ.alike.trans X.warmed.alike
  obtain ⟨A, hx⟩ := txt_of wi al E V C K hc hb l2
  obtain ⟨v, B, X', ⟨⟨hv, hh⟩, hl, hk, hs⟩, st⟩ := ChN.pays x t A cs.length (fun j => cs.getD j 0) z fm i (tabChN_of (movedChN hZ hw)) hfr hlo m meth c P g ig mk _ X hg hsize hdg hW hn ⟨r1, r2, rfl, hx, hi, sta_is al S, hz, sta_is al F, rf⟩
  exact ⟨v, B, X', ⟨[], ⟨hv, rfl, hh⟩, hl, hk, hs⟩, st⟩
/-- what backV says of its String, as the contracts of this text ask it: cs's low bytes, coder 0 -/
theorem codOf {cs : List Int32} {n : Nat} (hn : cs.length = n) (hb : ∀ c ∈ cs, ¬ 255 < c) : CodA cs 0 (Int32.ofNat n) ((cs.map lo8).map Value.int) := Or.inl ⟨rfl, by rw [hn], by simp [List.map_map, Function.comp_def], hb⟩
end StrChars.Road
end Jvm.Pilot.@@N@@
namespace Jvm.Pilot.@@N@@
open Jvm Jvm.ClassFile Sem Op Lib Jvm.Free Jvm.Stand Jvm.LawKit Jvm.RoadKit Bundle Jvm.Pilot.@@N@@.Jvm.D
section OwnKit
variable {p : Program} {l : Launch} {e : Env} {R : Room} {s : State} {m : MethodId} {args : Array Value} {below : List Frame} {meth : Method} {c : Code} {T : State} {locs : List Loc} {cells slots : Nat} {Z : State} {a0 : Array Value} {h : Heap} {kc ks : Nat} {Q : Option Value → Heap → List Loc → Prop}
theorem own_retI (X : Stand p l e R s m args below meth c T locs cells slots) (hx : p.tables.exec = Jvm.exec) {pc : Nat} {Ls : Array Slot} {z : Int32} {rest : List Value} (hret : meth.sig.returnType = some .int) (hd : decode c.code pc = .ok (.ireturn, 1)) {fs : List Frame}
    (hl : ∀ (f : JFrame) (acts : List Action), f.method = m → f.locked = none → f.entered = [] → (doReturn e (T.setTop f) acts (some (.int z))).1 = T.setFrames fs) : Steps p.tables e below (T.setTop (mkF m pc Ls (.int z :: rest))) (T.setFrames fs) := by
  have hm' : T.vm.method? m = some meth := X.method'
  have hn : narrow .int (.int z) = .int z := rfl
  show Steps p.tables e below (T.setTop { method := m, pc := pc, locals := Ls, stack := _ :: rest, locked := none }) _
  jvm_step X.here [X.here.top, hx, hd, hm', hret, hn]
  first | (intro acts; rw [hl _ acts rfl rfl rfl]) | rw [hl _ _ rfl rfl rfl]
  exact Steps.refl _
theorem own_retR (X : Stand p l e R s m args below meth c T locs cells slots) (hx : p.tables.exec = Jvm.exec) {pc : Nat} {Ls : Array Slot} {w : Value} {t : FieldType} {rest : List Value} (hret : meth.sig.returnType = some t) (ht : t.isReference = true) (hw : w.isRef = true) (hd : decode c.code pc = .ok (.areturn, 1)) {fs : List Frame}
    (hl : ∀ (f : JFrame) (acts : List Action), f.method = m → f.locked = none → f.entered = [] → (doReturn e (T.setTop f) acts (some w)).1 = T.setFrames fs) : Steps p.tables e below (T.setTop (mkF m pc Ls (w :: rest))) (T.setFrames fs) :=
  retOut X hx (i := .areturn) hret (by rcases ref_cases hw with rfl | ⟨z, rfl⟩ <;> cases t <;> first | rfl | (cases ht; done)) (Or.inr (Or.inr (Or.inr (Or.inr ⟨rfl, ht, hw⟩)))) hd hl
/-- what is left of a walk: from the frame g over T the invocation comes back, and Q says with what -/
def own_Go (p : Program) (e : Env) (below : List Frame) (s : State) (kc ks : Nat) (Q : Option Value → Heap → List Loc → Prop) (T : State) (g : JFrame) : Prop :=
  ∃ U o, Steps p.tables e below (T.setTop g) U ∧ U.status = .running ∧ Ended U below o ∧ ∃ v L, o = .returned v ∧ Q v U.heap L ∧ FrameEnd s o U L kc ks
theorem own_st {T T' : State} {g g' : JFrame} (st : ∀ t, Steps p.tables e below (T'.setTop g') t → Steps p.tables e below (T.setTop g) t) (k : own_Go p e below s kc ks Q T' g') : own_Go p e below s kc ks Q T g := by
  obtain ⟨U, o, a, b⟩ := k
  exact ⟨U, o, st _ a, b⟩
theorem own_goI (X : Stand p l e R s m args below meth c T locs cells slots) (hlk : meth.locks = false) (hx : p.tables.exec = Jvm.exec) {pc : Nat} {Ls : Array Slot} {z : Int32} {rest : List Value} (hret : meth.sig.returnType = some .int) (hd : decode c.code pc = .ok (.ireturn, 1))
    (hQ : Q (some (.int z)) T.heap locs) (h1 : cells ≤ kc) (h2 : slots ≤ ks) : own_Go p e below s kc ks Q T (mkF m pc Ls (.int z :: rest)) := by
  obtain ⟨fs, hr, hrun, hended, hW, hsame⟩ := X.leave (v := some (.int z)) (fun h => by rw [hret] at h; cases h) hlk
  exact ⟨_, _, own_retI X hx hret hd hr, hrun, hended, _, _, rfl, hQ, ⟨_, rfl⟩, hW, hsame.mono h1 h2⟩
theorem own_goN (X : Stand p l e R s m args below meth c T locs cells slots) (hlk : meth.locks = false) (hx : p.tables.exec = Jvm.exec) {pc : Nat} {Ls : Array Slot} {z : Int32} {rest : List Value} {t : FieldType} (ht : t = .boolean ∨ t = .byte ∨ t = .char ∨ t = .short) (hret : meth.sig.returnType = some t) (hd : decode c.code pc = .ok (.ireturn, 1))
    (hQ : Q (some (.int (nar t z))) T.heap locs) (h1 : cells ≤ kc) (h2 : slots ≤ ks) : own_Go p e below s kc ks Q T (mkF m pc Ls (.int z :: rest)) := by
  obtain ⟨fs, hr, hrun, hended, hW, hsame⟩ := X.leave (v := some (.int (nar t z))) (fun h => by rw [hret] at h; cases h) hlk
  exact ⟨_, _, retN X hx hret ht hd hr, hrun, hended, _, _, rfl, hQ, ⟨_, rfl⟩, hW, hsame.mono h1 h2⟩
theorem own_goR (X : Stand p l e R s m args below meth c T locs cells slots) (hlk : meth.locks = false) (hx : p.tables.exec = Jvm.exec) {pc : Nat} {Ls : Array Slot} {w : Value} {rest : List Value} {t : FieldType} (ht : t.isReference = true) (hw : w.isRef = true) (hret : meth.sig.returnType = some t) (hd : decode c.code pc = .ok (.areturn, 1))
    (hQ : Q (some w) T.heap locs) (h1 : cells ≤ kc) (h2 : slots ≤ ks) : own_Go p e below s kc ks Q T (mkF m pc Ls (w :: rest)) := by
  obtain ⟨fs, hr, hrun, hended, hW, hsame⟩ := X.leave (v := some w) (fun h => by rw [hret] at h; cases h) hlk
  exact ⟨_, _, own_retR X hx hret ht hw hd hr, hrun, hended, _, _, rfl, hQ, ⟨_, rfl⟩, hW, hsame.mono h1 h2⟩
theorem own_goV (X : Stand p l e R s m args below meth c T locs cells slots) (hlk : meth.locks = false) (hx : p.tables.exec = Jvm.exec) {pc : Nat} {Ls : Array Slot} (hret : meth.sig.returnType = none) (hd : decode c.code pc = .ok (.return_, 1))
    (hQ : Q none T.heap locs) (h1 : cells ≤ kc) (h2 : slots ≤ ks) : own_Go p e below s kc ks Q T (mkF m pc Ls []) := by
  obtain ⟨fs, hr, hrun, hended, hW, hsame⟩ := X.leave (v := none) (fun _ => rfl) hlk
  exact ⟨_, _, X.returnOut hx hret hd hr, hrun, hended, _, _, rfl, hQ, ⟨_, rfl⟩, hW, hsame.mono h1 h2⟩
theorem own_goJ (X : Stand p l e R s m args below meth c T locs cells slots) (hlk : meth.locks = false) (hx : p.tables.exec = Jvm.exec) {pc : Nat} {Ls : Array Slot} {w : Int64} {rest : List Value} (hret : meth.sig.returnType = some .long) (hd : decode c.code pc = .ok (.lreturn, 1))
    (hQ : Q (some (.long w)) T.heap locs) (h1 : cells ≤ kc) (h2 : slots ≤ ks) : own_Go p e below s kc ks Q T (mkF m pc Ls (.long w :: rest)) := by
  obtain ⟨fs, hr, hrun, hended, hW, hsame⟩ := X.leave (v := some (.long w)) (fun h => by rw [hret] at h; cases h) hlk
  exact ⟨_, _, retOut X hx (i := .lreturn) hret rfl (Or.inr (Or.inl ⟨rfl, rfl, _, rfl⟩)) hd hr, hrun, hended, _, _, rfl, hQ, ⟨_, rfl⟩, hW, hsame.mono h1 h2⟩
/-- an array's component -/
theorem own_cald (X : Stand p l e R s m args below meth c T locs cells slots) (hx : p.tables.exec = Jvm.exec) (hZ : Z.Warmed39 s.vm) (eT : T.heap = h) {a : Addr} {k : ClassId} {n j v : Int32} {vs : List Value} {d : Value} (V : Arv Z h a k .char n vs d) (hj : ¬ j < 0 ∧ j < n) (hv : vs.getD j.toNatClampNeg d = .int v)
    {pc : Nat} {Ls : Array Slot} {rest : List Value} (hd : decode c.code pc = .ok (.caload, 1)) : ∀ t, Steps p.tables e below (T.setTop (mkF m (pc + 1) Ls (.int v :: rest))) t → Steps p.tables e below (T.setTop (mkF m pc Ls (.int j :: .ref a :: rest))) t := by
  obtain ⟨cl, A, -, S, -, H, -⟩ := V
  have hin := inb_of S hj
  exact fun t q => X.caload hx (j := j) (v := .int v) (by rw [eT]; exact A.1) (State.isArrayOf_alike hZ.alike A.2.1) A.2.2 hin (Has.at H hin hv) (g := mkF m pc Ls (.int j :: .ref a :: rest)) rfl rfl hd t q
theorem own_bald (X : Stand p l e R s m args below meth c T locs cells slots) (hx : p.tables.exec = Jvm.exec) (hZ : Z.Warmed39 s.vm) (eT : T.heap = h) {a : Addr} {k : ClassId} {n j v : Int32} {vs : List Value} {d : Value} (V : Arv Z h a k .byte n vs d) (hj : ¬ j < 0 ∧ j < n) (hv : vs.getD j.toNatClampNeg d = .int v)
    {pc : Nat} {Ls : Array Slot} {rest : List Value} (hd : decode c.code pc = .ok (.baload, 1)) : ∀ t, Steps p.tables e below (T.setTop (mkF m (pc + 1) Ls (.int v :: rest))) t → Steps p.tables e below (T.setTop (mkF m pc Ls (.int j :: .ref a :: rest))) t := by
  obtain ⟨cl, A, -, S, -, H, -⟩ := V
  have hin := inb_of S hj
  exact fun t q => X.baloadBytes hx (j := j) (v := .int v) (by rw [eT]; exact A.1) (State.isArrayOf_alike hZ.alike A.2.1) A.2.2 hin (Has.at H hin hv) (g := mkF m pc Ls (.int j :: .ref a :: rest)) rfl rfl hd t q
theorem own_alen (X : Stand p l e R s m args below meth c T locs cells slots) (hx : p.tables.exec = Jvm.exec) (hZ : Z.Warmed39 s.vm) (eT : T.heap = h) {a : Addr} {k : ClassId} {n : Int32} {vs : List Value} {d : Value} {ty : FieldType} (V : Arv Z h a k ty n vs d)
    {pc : Nat} {Ls : Array Slot} {rest : List Value} (hd : decode c.code pc = .ok (.arraylength, 1)) : ∀ t, Steps p.tables e below (T.setTop (mkF m (pc + 1) Ls (.int n :: rest))) t → Steps p.tables e below (T.setTop (mkF m pc Ls (.ref a :: rest))) t := by
  obtain ⟨cl, A, -, S, N, H, -⟩ := V
  refine fun t q => X.arraylength hx (by rw [eT]; exact A.1) (State.isArrayOf_alike hZ.alike A.2.1) (g := mkF m pc Ls (.ref a :: rest)) rfl rfl hd t ?_
  rw [len_of S N]
  exact q
/-- a char's store -/
theorem own_cast (X : Stand p l e R s m args below meth c T locs cells slots) (hx : p.tables.exec = Jvm.exec) (hZ : Z.Warmed39 s.vm) (eT : T.heap = h) {a : Addr} {k : ClassId} {n j x : Int32} {vs : List Value} {d : Value} (V : Arv Z h a k .char n vs d) (hj : ¬ j < 0 ∧ j < n) (i : Nat) (hi : j.toNatClampNeg = i) (hl : i < vs.length)
    {pc : Nat} {Ls : Array Slot} {rest : List Value} (hd : decode c.code pc = .ok (.castore, 1)) : ∃ T' h', Stand p l e R s m args below meth c T' (locs ++ [⟨a, j.toNatClampNeg⟩]) cells slots ∧ T'.heap = h' ∧ Arv Z h' a k .char n (vs.set i (.int (nar .char x))) d ∧ Wr h h' a j.toNatClampNeg (.int (nar .char x)) ∧
      ∀ t, Steps p.tables e below (T'.setTop (mkF m (pc + 1) Ls rest)) t → Steps p.tables e below (T.setTop (mkF m pc Ls (.int x :: .int j :: .ref a :: rest))) t := by
  obtain ⟨cl, A, q, S, N, H, G⟩ := V
  obtain ⟨T', h', X', e', W, st⟩ := stC X hx hZ eT A (j := j) (x := x) (inb_of S hj) (g := mkF m pc Ls (.int x :: .int j :: .ref a :: rest)) rfl rfl hd
  exact ⟨T', h', X', e', Arv.set A q S N H G (fits_nar_char _) W i hi hl, W, st⟩
theorem own_bast (X : Stand p l e R s m args below meth c T locs cells slots) (hx : p.tables.exec = Jvm.exec) (hZ : Z.Warmed39 s.vm) (eT : T.heap = h) {a : Addr} {k : ClassId} {n j x : Int32} {vs : List Value} {d : Value} (V : Arv Z h a k .byte n vs d) (hj : ¬ j < 0 ∧ j < n) (i : Nat) (hi : j.toNatClampNeg = i) (hl : i < vs.length)
    {pc : Nat} {Ls : Array Slot} {rest : List Value} (hd : decode c.code pc = .ok (.bastore, 1)) : ∃ T' h', Stand p l e R s m args below meth c T' (locs ++ [⟨a, j.toNatClampNeg⟩]) cells slots ∧ T'.heap = h' ∧ Arv Z h' a k .byte n (vs.set i (.int (nar .byte x))) d ∧ Wr h h' a j.toNatClampNeg (.int (nar .byte x)) ∧
      ∀ t, Steps p.tables e below (T'.setTop (mkF m (pc + 1) Ls rest)) t → Steps p.tables e below (T.setTop (mkF m pc Ls (.int x :: .int j :: .ref a :: rest))) t := by
  obtain ⟨cl, A, q, S, N, H, G⟩ := V
  obtain ⟨T', h', X', e', W, st⟩ := stB X hx hZ eT A (j := j) (x := x) (inb_of S hj) (g := mkF m pc Ls (.int x :: .int j :: .ref a :: rest)) rfl rfl hd
  exact ⟨T', h', X', e', Arv.set A q S N H G (fits_nar_byte _) W i hi hl, W, st⟩
/-- the premise of a call, in the one form of this text -/
abbrev own_Bk (l : Launch) (R : Room) (p : Program) (e : Env) (below : List Frame) (s : State) (args : Array Value) (y : MethodName) (W : Nat) (h : Heap) (as' : Array Value) (dc ds : Nat) (Q : Option Value → Heap → List Loc → Prop) : Prop :=
  Back l R p e below s args y 3 W (fun A a => a = as' ∧ A.U.heap = h ∧ A.cells + dc ≤ R.cells ∧ A.slots + ds ≤ R.slots) (fun A _ v B => ∃ L, Q v B.U.heap L ∧ B.locs = A.locs ++ L ∧ B.cells = A.cells + dc ∧ B.slots = A.slots + ds)
/-- a static call -/
theorem own_cS (X : Stand p l e R s m args below meth c T locs cells slots) (hx : p.tables.exec = Jvm.exec) (hZ : Z.Warmed39 s.vm) {own : String} {index : Nat} {y : MethodName} {bytes : ByteArray} {maxL : Nat} {ret : Option FieldType} (hown : s.vm.findClass own = some m.cls)
    (w1 : (Cond.methodLink own index y).before a0 Z = true) (w2 : (Cond.static y).before a0 Z = true) (w3 : (Cond.initialized y.cls).before a0 Z = true) (w4 : (Cond.code y bytes maxL ret).before a0 Z = true) (hy : y.cls ≠ "java/lang/invoke/MethodHandle" ∧ y.cls ≠ "java/lang/invoke/VarHandle") (eT : T.heap = h)
    {W dc ds : Nat} {Qc : Option Value → Heap → List Loc → Prop} {argsL rest : List Value} (hK : own_Bk l R p e below s args y W h argsL.toArray dc ds Qc) {pc : Nat} {Ls : Array Slot} {stk : List Value} (hsize : Ls.size = c.maxLocals) (hlen : ∀ sig, parseMethodDescriptor y.desc = some sig → argsL.length = sig.parameters.length)
    (hstk : stk = argsL.reverse ++ rest) (hW : (rest.map fun v => v.category).sum ≤ W) (hd : decode c.code pc = .ok (.invokestatic index, 3)) (h1 : cells + dc ≤ R.cells) (h2 : slots + ds ≤ R.slots) :
    ∃ v L T', Stand p l e R s m args below meth c T' (locs ++ L) (cells + dc) (slots + ds) ∧ Qc v T'.heap L ∧ ∀ t, Steps p.tables e below (T'.setTop (mkF m (pc + 3) Ls (v.toList ++ rest))) t → Steps p.tables e below (T.setTop (mkF m pc Ls stk)) t := by
  obtain ⟨v, _, ⟨T', L', k', n'⟩, -, X', ⟨L, hQ, q1, q2, q3⟩, st⟩ := Jvm.LawKit.callS X hx (y := y) hown (mvT hZ w1) (mvT hZ w2) (mvT hZ w3) (mvT hZ w4) hy hK (g := mkF m pc Ls stk) rfl hsize (argsL := argsL) (rest := rest) hlen hstk (by simpa using hW) hd (fun _ _ => ⟨rfl, eT, h1, h2⟩)
  dsimp only [Pt.U, Pt.locs, Pt.cells, Pt.slots] at X' hQ q1 q2 q3 st
  subst q1 q2 q3
  exact ⟨v, L, T', X', hQ, st⟩
/-- a virtual call of the method that the receiver's class selects -/
theorem own_cV (X : Stand p l e R s m args below meth c T locs cells slots) (hx : p.tables.exec = Jvm.exec) (hZ : Z.Warmed39 s.vm) {own C : String} {index : Nat} {y z : MethodName} (hown : s.vm.findClass own = some m.cls)
    (w1 : (Cond.methodLink own index y).before a0 Z = true) (w2 : (Cond.declares y).before a0 Z = true) (hnf : NotFace s y) (w3 : (Cond.selects C y z).before a0 Z = true) (w4 : (Cond.instanceMethod z).before a0 Z = true) (hy : y.cls ≠ "java/lang/invoke/MethodHandle" ∧ y.cls ≠ "java/lang/invoke/VarHandle") (eT : T.heap = h)
    {b : Addr} (E : Exa Z h b C) {W dc ds : Nat} {Qc : Option Value → Heap → List Loc → Prop} {argsL rest : List Value} (hK : own_Bk l R p e below s args z W h (Value.ref b :: argsL).toArray dc ds Qc) {pc : Nat} {Ls : Array Slot} {stk : List Value} (hsize : Ls.size = c.maxLocals) (hlen : ∀ sig, parseMethodDescriptor y.desc = some sig → argsL.length = sig.parameters.length)
    (hstk : stk = argsL.reverse ++ .ref b :: rest) (hW : (rest.map fun v => v.category).sum ≤ W) (hd : decode c.code pc = .ok (.invokevirtual index, 3)) (h1 : cells + dc ≤ R.cells) (h2 : slots + ds ≤ R.slots) :
    ∃ v L T', Stand p l e R s m args below meth c T' (locs ++ L) (cells + dc) (slots + ds) ∧ Qc v T'.heap L ∧ ∀ t, Steps p.tables e below (T'.setTop (mkF m (pc + 3) Ls (v.toList ++ rest))) t → Steps p.tables e below (T.setTop (mkF m pc Ls stk)) t := by
  obtain ⟨cq, kq, qa, qb, qc⟩ := isOf hZ eT E
  obtain ⟨v, _, ⟨T', L', k', n'⟩, -, X', ⟨L, hQ, q1, q2, q3⟩, st⟩ := X.virtualBack hx (y := y) (z := z) hown (mvT hZ w1) (mvT hZ w2) hnf (mvT hZ w3) (mvT hZ w4) hy hK qa qc (g := mkF m pc Ls stk) rfl hsize (Steps.refl _) (argsL := argsL) (rest := rest) hlen hstk (by simpa using hW) hd (fun _ _ => ⟨rfl, eT, h1, h2⟩)
  dsimp only [Pt.U, Pt.locs, Pt.cells, Pt.slots] at X' hQ q1 q2 q3 st
  subst q1 q2 q3
  exact ⟨v, L, T', X', hQ, fun t q => st.trans q⟩
/-- a constructor's call -/
theorem own_cI (X : Stand p l e R s m args below meth c T locs cells slots) (hx : p.tables.exec = Jvm.exec) (hZ : Z.Warmed39 s.vm) {own : String} {index : Nat} {y : MethodName} {bytes : ByteArray} {maxL : Nat} (hn : y.name = "<init>") (hown : s.vm.findClass own = some m.cls)
    (w1 : (Cond.methodLink own index y).before a0 Z = true) (w2 : (Cond.instanceMethod y).before a0 Z = true) (w4 : (Cond.code y bytes maxL none).before a0 Z = true) (hy : y.cls ≠ "java/lang/invoke/MethodHandle" ∧ y.cls ≠ "java/lang/invoke/VarHandle") (eT : T.heap = h)
    {b : Addr} {W dc ds : Nat} {Qc : Option Value → Heap → List Loc → Prop} {argsL rest : List Value} (hK : own_Bk l R p e below s args y W h (Value.ref b :: argsL).toArray dc ds Qc) {pc : Nat} {Ls : Array Slot} {stk : List Value} (hsize : Ls.size = c.maxLocals) (hlen : ∀ sig, parseMethodDescriptor y.desc = some sig → argsL.length = sig.parameters.length)
    (hstk : stk = argsL.reverse ++ .ref b :: rest) (hW : (rest.map fun v => v.category).sum ≤ W) (hd : decode c.code pc = .ok (.invokespecial index, 3)) (h1 : cells + dc ≤ R.cells) (h2 : slots + ds ≤ R.slots) :
    ∃ v L T', Stand p l e R s m args below meth c T' (locs ++ L) (cells + dc) (slots + ds) ∧ Qc v T'.heap L ∧ ∀ t, Steps p.tables e below (T'.setTop (mkF m (pc + 3) Ls (v.toList ++ rest))) t → Steps p.tables e below (T.setTop (mkF m pc Ls stk)) t := by
  obtain ⟨v, _, ⟨T', L', k', n'⟩, -, X', ⟨L, hQ, q1, q2, q3⟩, st⟩ := X.specialBack hx (y := y) hn hown (mvT hZ w1) (mvT hZ w2) (mvT hZ w4) hy hK (g := mkF m pc Ls stk) rfl hsize (Steps.refl _) (a := b) (argsL := argsL) (rest := rest) hlen hstk (by simpa using hW) hd (fun _ _ => ⟨rfl, eT, h1, h2⟩)
  dsimp only [Pt.U, Pt.locs, Pt.cells, Pt.slots] at X' hQ q1 q2 q3 st
  subst q1 q2 q3
  exact ⟨v, L, T', X', hQ, fun t q => st.trans q⟩
/-- behind a call that wrote and made nothing -/
theorem own_pure {pc : Nat} {Ls : Array Slot} {stk rest : List Value} {w : Option Value} (q : ∃ v L T', Stand p l e R s m args below meth c T' (locs ++ L) (cells + 0) (slots + 0) ∧ (v = w ∧ L = [] ∧ T'.heap = h) ∧ ∀ t, Steps p.tables e below (T'.setTop (mkF m (pc + 3) Ls (v.toList ++ rest))) t → Steps p.tables e below (T.setTop (mkF m pc Ls stk)) t) :
    ∃ T', Stand p l e R s m args below meth c T' locs cells slots ∧ T'.heap = h ∧ ∀ t, Steps p.tables e below (T'.setTop (mkF m (pc + 3) Ls (w.toList ++ rest))) t → Steps p.tables e below (T.setTop (mkF m pc Ls stk)) t := by
  obtain ⟨v, L, T', X', ⟨rfl, rfl, e'⟩, st⟩ := q
  exact ⟨T', by simpa using X', e', st⟩
/-- behind a call that wrote and made nothing, of which A says what it returned -/
theorem own_pureE {pc : Nat} {Ls : Array Slot} {stk rest : List Value} {A : Option Value → Prop} (q : ∃ v L T', Stand p l e R s m args below meth c T' (locs ++ L) (cells + 0) (slots + 0) ∧ (A v ∧ L = [] ∧ T'.heap = h) ∧ ∀ t, Steps p.tables e below (T'.setTop (mkF m (pc + 3) Ls (v.toList ++ rest))) t → Steps p.tables e below (T.setTop (mkF m pc Ls stk)) t) :
    ∃ v T', A v ∧ Stand p l e R s m args below meth c T' locs cells slots ∧ T'.heap = h ∧ ∀ t, Steps p.tables e below (T'.setTop (mkF m (pc + 3) Ls (v.toList ++ rest))) t → Steps p.tables e below (T.setTop (mkF m pc Ls stk)) t := by
  obtain ⟨v, L, T', X', ⟨hA, rfl, e'⟩, st⟩ := q
  exact ⟨v, T', hA, by simpa using X', e', st⟩
theorem own_eq01 {v : Option Value} {cs ds : List Int32} (q : (v = some (.int 1) ∧ cs = ds) ∨ (v = some (.int 0) ∧ ¬ cs = ds)) : ∃ z : Int32, z = (if cs = ds then (1 : Int32) else (0 : Int32)) ∧ v = some (.int z) := by
  rcases q with ⟨rfl, q⟩ | ⟨rfl, q⟩
  · exact ⟨1, by rw [if_pos q], rfl⟩
  · exact ⟨0, by rw [if_neg q], rfl⟩
theorem own_aald (X : Stand p l e R s m args below meth c T locs cells slots) (hx : p.tables.exec = Jvm.exec) (hZ : Z.Warmed39 s.vm) (eT : T.heap = h) {a : Addr} {k : ClassId} {n j : Int32} {v : Value} {vs : List Value} {d : Value} {C : String} (V : Arv Z h a k (.object C) n vs d) (hj : ¬ j < 0 ∧ j < n) (hv : vs.getD j.toNatClampNeg d = v)
    {pc : Nat} {Ls : Array Slot} {rest : List Value} (hd : decode c.code pc = .ok (.aaload, 1)) : ∀ t, Steps p.tables e below (T.setTop (mkF m (pc + 1) Ls (v :: rest))) t → Steps p.tables e below (T.setTop (mkF m pc Ls (.int j :: .ref a :: rest))) t := by
  obtain ⟨cl, A, -, S, -, H, -⟩ := V
  have hin := inb_of S hj
  exact fun t q => X.aaload hx (j := j) (v := v) (by rw [eT]; exact A.1) (State.isArrayOf_alike hZ.alike A.2.1) rfl A.2.2 hin (Has.at H hin hv) (g := mkF m pc Ls (.int j :: .ref a :: rest)) rfl rfl hd t q
/-- an array's clone -/
theorem own_clone (X : Stand p l e R s m args below meth c T locs cells slots) (hx : p.tables.exec = Jvm.exec) (hZ : Z.Warmed39 s.vm) {own ad : String} {index : Nat} (hown : s.vm.findClass own = some m.cls)
    (w1 : (Cond.methodLink own index ⟨ad, "clone", "()Ljava/lang/Object;"⟩).before a0 Z = true) (w2 : (Cond.sameMethod ad "java/lang/Object" "clone" "()Ljava/lang/Object;").before a0 Z = true) (w3 : (Cond.native ⟨"java/lang/Object", "clone", "()Ljava/lang/Object;"⟩).before a0 Z = true)
    (w4 : (Cond.instanceMethod ⟨"java/lang/Object", "clone", "()Ljava/lang/Object;"⟩).before a0 Z = true) (w5 : (Cond.selects ad ⟨ad, "clone", "()Ljava/lang/Object;"⟩ ⟨"java/lang/Object", "clone", "()Ljava/lang/Object;"⟩).before a0 Z = true) (w6 : (Cond.castable ad "java/lang/Cloneable").before a0 Z = true)
    (eT : T.heap = h) {a : Addr} {k : ClassId} {ty : FieldType} {n : Int32} {vs : List Value} {d : Value} (V : Arv Z h a k ty n vs d) (E : Exa Z h a ad) {pc : Nat} {Ls : Array Slot} {rest : List Value} (hsize : Ls.size = c.maxLocals) (hd : decode c.code pc = .ok (.invokevirtual index, 3))
    (hf : 1 ≤ R.frames) {W cap : Nat} (hW : (rest.map fun v => v.category).sum ≤ W) (hl : W + 14 ≤ R.locals) (hcap : n.toNatClampNeg ≤ cap) (hc : cells + 1 ≤ R.cells) (hsl : slots + cap ≤ R.slots) :
    ∃ T' h', Stand p l e R s m args below meth c T' locs (cells + 1) (slots + cap) ∧ T'.heap = h' ∧ Ext h h' ∧ Arv Z h' h.size k ty n vs d ∧ Exa Z h' h.size ad ∧
      ∀ t, Steps p.tables e below (T'.setTop (mkF m (pc + 3) Ls (.ref h.size :: rest))) t → Steps p.tables e below (T.setTop (mkF m pc Ls (.ref a :: rest))) t := by
  obtain ⟨cl, A, q, S, N, H, G⟩ := V
  have F : FitC Z cl := fitC_of A fun i hi v hv => by
    have q1 := H i hi
    rw [hv] at q1
    cases q1
    exact G i hi
  obtain ⟨T', h', X', e', E', A', B', st⟩ := cloneA X hx hZ hown w1 w2 w3 w4 w5 w6 eT A E F (g := mkF m pc Ls (.ref a :: rest)) rfl hsize rfl hd hf (W := W) (by simpa using hW) hl (cap := cap) (by rw [S]; exact hcap) hc hsl
  exact ⟨T', h', X', e', E', ⟨_, A', q, S, N, H, G⟩, B', st⟩
theorem own_nref {u : Value} {t : FieldType} (h : u.isRef = true) (ht : t.isReference = true := by rfl) : narrow t u = u := by
  rcases ref_cases h with rfl | ⟨z, rfl⟩ <;> cases t <;> first | rfl | (cases ht; done)
theorem own_fref {u : Value} {t : FieldType} (h : u.isRef = true) (ht : t.isReference = true := by rfl) : fits t u = true := by
  rcases ref_cases h with rfl | ⟨z, rfl⟩ <;> cases t <;> first | rfl | (cases ht; done)
/-- a walk comes to a place where J holds -/
def own_Re (p : Program) (e : Env) (below : List Frame) (J : State → JFrame → Prop) (T : State) (g : JFrame) : Prop := ∃ T' g', J T' g' ∧ ∀ t, Steps p.tables e below (T'.setTop g') t → Steps p.tables e below (T.setTop g) t
theorem own_stR {J : State → JFrame → Prop} {T T' : State} {g g' : JFrame} (st : ∀ t, Steps p.tables e below (T'.setTop g') t → Steps p.tables e below (T.setTop g) t) (k : own_Re p e below J T' g') : own_Re p e below J T g := by
  obtain ⟨U, o, a, b⟩ := k
  exact ⟨U, o, a, fun t q => st _ (b t q)⟩
theorem own_reI {J : State → JFrame → Prop} {T : State} {g : JFrame} (j : J T g) : own_Re p e below J T g := ⟨T, g, j, fun _ q => q⟩
end OwnKit
end Jvm.Pilot.@@N@@
namespace Jvm.Pilot.@@N@@
open Jvm Jvm.ClassFile Sem Op Lib Jvm.Free Jvm.Stand Jvm.LawKit Jvm.RoadKit Bundle Jvm.Pilot.@@N@@.Jvm.D
section OwnWide
variable {p : Program} {l : Launch} {e : Env} {R : Room} {s : State} {m : MethodId} {args : Array Value} {below : List Frame} {meth : Method} {c : Code} {T : State} {locs : List Loc} {cells slots : Nat} {Z : State} {a0 : Array Value} {h h' h0 : Heap} {kc ks : Nat} {Q : Option Value → Heap → List Loc → Prop} {EL : List (String × Nat)} {vm0 : Vm} {own : String} {mc : ClassId}
/-- what is left of a walk that may intern -/
def own_GoW (p : Program) (e : Env) (below : List Frame) (s : State) (Z : State) (EL : List (String × Nat)) (kc ks : Nat) (Q : Option Value → Heap → List Loc → Prop) (T : State) (g : JFrame) : Prop :=
  ∃ U o, Steps p.tables e below (T.setTop g) U ∧ U.status = .running ∧ Ended U below o ∧ ∃ v L, o = .returned v ∧ Q v U.heap L ∧ CHr Z EL s.vm s.heap U.vm U.heap ∧ ReturnedEndW s o U L kc ks
theorem own_stW {T T' : State} {g g' : JFrame} (st : ∀ t, Steps p.tables e below (T'.setTop g') t → Steps p.tables e below (T.setTop g) t) (k : own_GoW p e below s Z EL kc ks Q T' g') : own_GoW p e below s Z EL kc ks Q T g := by
  obtain ⟨U, o, a, b⟩ := k
  exact ⟨U, o, st _ a, b⟩
/-- what such a walk bears -/
def own_W (s Z : State) (EL : List (String × Nat)) (own : String) (mc : ClassId) (h0 : Heap) (vm0 : Vm) (h : Heap) : Prop :=
  (∃ k0, s.Since vm0 k0 ∧ k0 ≤ h.size) ∧ Z.Warmed39 vm0 ∧ vm0.findClass own = some mc ∧ CHr Z EL s.vm h0 vm0 h
theorem own_W.start (hZ : Z.Warmed39 s.vm) (hown : s.vm.findClass own = some mc) (H : CHv Z EL s.vm h) : own_W s Z EL own mc h s.vm h :=
  ⟨⟨h.size, (State.WarmedH.refl s).since _, Nat.le_refl _⟩, hZ, hown, CHr.refl H⟩
theorem own_W.ext (w : own_W s Z EL own mc h0 vm0 h) (E : Ext h h') : own_W s Z EL own mc h0 vm0 h' := by
  obtain ⟨⟨k0, a, b⟩, z, o, C⟩ := w
  exact ⟨⟨k0, a, Nat.le_trans b E.1⟩, z, o, C.trans (CHr.ext E C.1)⟩
theorem own_W.keep {ws : List Addr} (w : own_W s Z EL own mc h0 vm0 h) (K : Keep h h' ws) (hs : ∀ x ∈ ws, Safe Z EL vm0 h x) : own_W s Z EL own mc h0 vm0 h' := by
  obtain ⟨⟨k0, a, b⟩, z, o, C⟩ := w
  exact ⟨⟨k0, a, Nat.le_trans b K.1⟩, z, o, C.trans (CHr.keep K hs C.1)⟩
theorem own_W.wr {a : Addr} {sl : Nat} {v : Value} (w : own_W s Z EL own mc h0 vm0 h) (W : Wr h h' a sl v) (S : Safe Z EL vm0 h a) : own_W s Z EL own mc h0 vm0 h' := by
  obtain ⟨⟨k0, a, b⟩, z, o, C⟩ := w
  exact ⟨⟨k0, a, Nat.le_trans b (Keep.of_wr W).1⟩, z, o, C.trans (CHr.wr W S C.1)⟩
theorem own_W.held (w : own_W s Z EL own mc h0 vm0 h) : CHv Z EL vm0 h := w.2.2.2.1
theorem own_goIW (X : Stand p l e R (s.setVm vm0) m args below meth c T locs cells slots) (hh : s.heap = h0) (w : own_W s Z EL own mc h0 vm0 h) (hEL : EW Z a0 EL) (eT : T.heap = h) (hlk : meth.locks = false) {v : Option Value} {g : JFrame} (hv : meth.sig.returnType = none → v = none)
    (hr : ∀ fs, (∀ (f : JFrame) (acts : List Action), f.method = m → f.locked = none → f.entered = [] → (doReturn e (T.setTop f) acts v).1 = T.setFrames fs) → Steps p.tables e below (T.setTop g) (T.setFrames fs))
    (hQ : Q v h locs) (h1 : cells ≤ kc) (h2 : slots ≤ ks) : own_GoW p e below s Z EL kc ks Q T g := by
  obtain ⟨⟨k0, hS, hk⟩, hZ, -, C⟩ := w
  subst eT hh
  obtain ⟨fs, hl, hrun, hended, q1, q2, q3, q4⟩ := X.leaveW hS hk (v := v) hv hlk
  have A := CHv.at X hZ hEL C.1
  exact ⟨_, _, hr fs hl, hrun, hended, _, _, rfl, hQ, C.trans A, q1, q2, q3, q4.mono h1 h2⟩
theorem own_goWI (X : Stand p l e R (s.setVm vm0) m args below meth c T locs cells slots) (hh : s.heap = h0) (w : own_W s Z EL own mc h0 vm0 h) (hEL : EW Z a0 EL) (eT : T.heap = h) (hlk : meth.locks = false) (hx : p.tables.exec = Jvm.exec) {pc : Nat} {Ls : Array Slot} {z : Int32} {rest : List Value} (hret : meth.sig.returnType = some .int) (hd : decode c.code pc = .ok (.ireturn, 1))
    (hQ : Q (some (.int z)) h locs) (h1 : cells ≤ kc) (h2 : slots ≤ ks) : own_GoW p e below s Z EL kc ks Q T (mkF m pc Ls (.int z :: rest)) :=
  own_goIW X hh w hEL eT hlk (fun h => by rw [hret] at h; cases h) (fun fs hl => own_retI X hx hret hd hl) hQ h1 h2
theorem own_goWN (X : Stand p l e R (s.setVm vm0) m args below meth c T locs cells slots) (hh : s.heap = h0) (w : own_W s Z EL own mc h0 vm0 h) (hEL : EW Z a0 EL) (eT : T.heap = h) (hlk : meth.locks = false) (hx : p.tables.exec = Jvm.exec) {pc : Nat} {Ls : Array Slot} {z : Int32} {rest : List Value} {t : FieldType} (ht : t = .boolean ∨ t = .byte ∨ t = .char ∨ t = .short) (hret : meth.sig.returnType = some t) (hd : decode c.code pc = .ok (.ireturn, 1))
    (hQ : Q (some (.int (nar t z))) h locs) (h1 : cells ≤ kc) (h2 : slots ≤ ks) : own_GoW p e below s Z EL kc ks Q T (mkF m pc Ls (.int z :: rest)) :=
  own_goIW X hh w hEL eT hlk (fun h => by rw [hret] at h; cases h) (fun fs hl => retN X hx hret ht hd hl) hQ h1 h2
theorem own_goWR (X : Stand p l e R (s.setVm vm0) m args below meth c T locs cells slots) (hh : s.heap = h0) (w : own_W s Z EL own mc h0 vm0 h) (hEL : EW Z a0 EL) (eT : T.heap = h) (hlk : meth.locks = false) (hx : p.tables.exec = Jvm.exec) {pc : Nat} {Ls : Array Slot} {u : Value} {rest : List Value} {t : FieldType} (ht : t.isReference = true) (hw : u.isRef = true) (hret : meth.sig.returnType = some t) (hd : decode c.code pc = .ok (.areturn, 1))
    (hQ : Q (some u) h locs) (h1 : cells ≤ kc) (h2 : slots ≤ ks) : own_GoW p e below s Z EL kc ks Q T (mkF m pc Ls (u :: rest)) :=
  own_goIW X hh w hEL eT hlk (fun h => by rw [hret] at h; cases h) (fun fs hl => own_retR X hx hret ht hw hd hl) hQ h1 h2
theorem own_goWV (X : Stand p l e R (s.setVm vm0) m args below meth c T locs cells slots) (hh : s.heap = h0) (w : own_W s Z EL own mc h0 vm0 h) (hEL : EW Z a0 EL) (eT : T.heap = h) (hlk : meth.locks = false) (hx : p.tables.exec = Jvm.exec) {pc : Nat} {Ls : Array Slot} (hret : meth.sig.returnType = none) (hd : decode c.code pc = .ok (.return_, 1))
    (hQ : Q none h locs) (h1 : cells ≤ kc) (h2 : slots ≤ ks) : own_GoW p e below s Z EL kc ks Q T (mkF m pc Ls []) :=
  own_goIW X hh w hEL eT hlk (fun _ => rfl) (fun fs hl => X.returnOut hx hret hd hl) hQ h1 h2
/-- ldc of a String constant that isn't read -/
theorem own_ldcO (X : Stand p l e R (s.setVm vm0) m args below meth c T locs cells slots) (hx : p.tables.exec = Jvm.exec) (w : own_W s Z EL own m.cls h0 vm0 h) (hEL : EW Z a0 EL) {text : String} {index : Nat} (wl : (Cond.stringLink own index text).before a0 Z = true) (wS : ∀ a ∈ Bundle.stringAtoms, a.before a0 Z = true) (eT : T.heap = h)
    {pc : Nat} {Ls : Array Slot} {stk : List Value} (hd : decode c.code pc = .ok (.ldc index, 2)) {n : Nat} (hn : 4 * text.toList.length ≤ n) (hbig : n ≤ 536870912) (hc : cells + 2 ≤ R.cells) (hl : slots + (n + 4) ≤ R.slots) :
    ∃ (a : Addr) (T' : State) (h' : Heap), Stand p l e R (s.setVm T'.vm) m args below meth c T' locs (cells + 2) (slots + (n + 4)) ∧ T'.heap = h' ∧ Ext h h' ∧ own_W s Z EL own m.cls h0 T'.vm h' ∧ (∀ x, x < h.size → Safe Z EL vm0 h x → Safe Z EL T'.vm h' x) ∧
      ∀ t, Steps p.tables e below (T'.setTop (mkF m (pc + 2) Ls (.ref a :: stk))) t → Steps p.tables e below (T.setTop (mkF m pc Ls stk)) t := by
  obtain ⟨⟨k0, hS, hk⟩, hZ, ho, C⟩ := w
  obtain ⟨a, T', h', k1, X', e', E, hS', hk', hZ', ho', C', -, st⟩ := ldcOH X hx hZ ho wl wS eT hS hk hEL C.1 (g := mkF m pc Ls stk) rfl hd hn hbig hc hl
  exact ⟨a, T', h', X', e', E, ⟨⟨k1, hS', hk'⟩, hZ', ho', C.trans C'⟩, fun x hx S => C'.safe hx S, st⟩
/-- ldc of a String constant that is read -/
theorem own_ldcC (X : Stand p l e R (s.setVm vm0) m args below meth c T locs cells slots) (hx : p.tables.exec = Jvm.exec) (w : own_W s Z EL own m.cls h0 vm0 h) (hEL : EW Z a0 EL) {text : String} {index : Nat} (wl : (Cond.stringLink own index text).before a0 Z = true) (wS : ∀ a ∈ Bundle.stringAtoms, a.before a0 Z = true) (eT : T.heap = h)
    (hmem : (own, index) ∈ EL) {vs : List Value} {z : Int32} (ht : (∀ c ∈ text.toList, c.toNat < 256) ∧ text.toList.map (fun c => Value.int (Jvm.Lit.byteI c.toNat.toUInt16)) = vs) (hz : ¬ z < 0) (hlv : z.toNatClampNeg = vs.length)
    {pc : Nat} {Ls : Array Slot} {stk : List Value} (hd : decode c.code pc = .ok (.ldc index, 2)) {n : Nat} (hn : 4 * text.toList.length ≤ n) (hbig : n ≤ 536870912) (hc : cells + 2 ≤ R.cells) (hl : slots + (n + 4) ≤ R.slots) :
    ∃ (a : Addr) (T' : State) (h' : Heap) (b : Addr) (k : ClassId), Stand p l e R (s.setVm T'.vm) m args below meth c T' locs (cells + 2) (slots + (n + 4)) ∧ T'.heap = h' ∧ Ext h h' ∧ own_W s Z EL own m.cls h0 T'.vm h' ∧ (∀ x, x < h.size → Safe Z EL vm0 h x → Safe Z EL T'.vm h' x) ∧
      Exa Z h' a "java/lang/String" ∧ Fld Z h' a "java/lang/String" "coder" "B" (.int (0 : Int32)) ∧ Fld Z h' a "java/lang/String" "value" "[B" (.ref b) ∧ Arv Z h' b k .byte z vs (.int (0 : Int32)) ∧ (∀ x, Safe Z EL T'.vm h' x → x ≠ a ∧ x ≠ b) ∧
      ∀ t, Steps p.tables e below (T'.setTop (mkF m (pc + 2) Ls (.ref a :: stk))) t → Steps p.tables e below (T.setTop (mkF m pc Ls stk)) t := by
  obtain ⟨⟨k0, hS, hk⟩, hZ, ho, C⟩ := w
  obtain ⟨a, T', h', k1, b, k, X', e', E, hS', hk', hZ', ho', q1, q2, q3, q4, -, -, C', -, q5, st⟩ := ldcCH X hx hZ ho wl wS eT hS hk hEL hmem C.1 ht hz hlv (g := mkF m pc Ls stk) rfl hd hn hbig hc hl
  exact ⟨a, T', h', b, k, X', e', E, ⟨⟨k1, hS', hk'⟩, hZ', ho', C.trans C'⟩, fun x hx S => C'.safe hx S, q1, q2, q3, q4, q5, st⟩
/-- the premise of a call that may intern -/
abbrev own_BkW (l : Launch) (R : Room) (p : Program) (e : Env) (below : List Frame) (s : State) (args : Array Value) (y : MethodName) (W : Nat) (Z : State) (EL : List (String × Nat)) (vm0 : Vm) (h : Heap) (as' : Array Value) (dc ds : Nat) (Q : Option Value → Heap → List Loc → Prop) : Prop :=
  BackS l R p e below (s.setVm vm0) args y 3 W (fun A a => a = as' ∧ A.U.heap = h ∧ A.cells + dc ≤ R.cells ∧ A.slots + ds ≤ R.slots) (fun A _ v B => ∃ L, Q v B.U.heap L ∧ B.locs = A.locs ++ L ∧ B.cells = A.cells + dc ∧ B.slots = A.slots + ds ∧ CHr Z EL vm0 h B.U.vm B.U.heap)
/-- a contract of this text pays it: the cells xs, which the callee may write, are no constant's -/
theorem own_backW {y : MethodName} {bytes : ByteArray} {maxL : Nat} {ret : Option FieldType} {rm : Room} {W : Nat} {as' : Array Value} {Qc : Option Value → Heap → List Loc → Prop} {xs : List Addr}
    (hM : MetFree l y (head1 [Cond.code y bytes maxL ret] rm) (fun a U => a = as' ∧ Z.Warmed39 U.vm ∧ U.heap = h ∧ CHv Z EL U.vm h ∧ ∀ x ∈ xs, Safe Z EL U.vm h x) (fun _ _ _ _ _ => True) (fun _ U o U' => ∃ v L, o = .returned v ∧ Qc v U'.heap L ∧ CHr Z EL U.vm U.heap U'.vm U'.heap ∧ ReturnedEndW U o U' L rm.cells rm.slots))
    (w : own_W s Z EL own mc h0 vm0 h) (wc : (Cond.code y bytes maxL ret).before a0 Z = true) (wz : (Cond.initialized y.cls).before a0 Z = true) (hf : rm.frames + 1 ≤ R.frames) (hl : W + (maxL + 11) + rm.locals ≤ R.locals) (hEL : EW Z a0 EL) (hs : ∀ x ∈ xs, x < h.size ∧ Safe Z EL vm0 h x) :
    own_BkW l R p e below s args y W Z EL vm0 h as' rm.cells rm.slots Qc := by
  have hZ : Z.Warmed39 vm0 := w.2.1
  have H := w.held
  refine BackS.of_freeW (bytes := bytes) (maxL := maxL) (ret := ret) (E := fun _ first o t L k n => k = rm.cells ∧ n = rm.slots ∧ (∃ v, o = .returned v ∧ Qc v t.heap L) ∧ CHr Z EL first.vm first.heap t.vm t.heap) hM hf hl ?_ ?_ (fun _ _ _ _ _ _ _ _ _ => trivial) (fun _ _ _ _ ⟨v, L, q1, q2, q3, q4⟩ => ⟨L, _, _, q4, rfl, rfl, ⟨v, q1, q2⟩, q3⟩) ?_
  · intro m meth c A a Y hp
    have hU : Z.Warmed39 A.U.vm := wtrans (s := s.setVm vm0) hZ Y.warmed
    exact ⟨by show (Cond.and _ .tt).before a A.U = true; rw [Cond.before_and, mv hU wc]; rfl, mv hU wc, mv hU wz, hp.2.2.1, hp.2.2.2⟩
  · intro m meth c A a g mk Y hp
    have C := CHv.at Y hZ hEL H
    exact ⟨hp.1, wtrans (s := s.setVm vm0) hZ Y.warmed, hp.2.1, C.1, fun x hx => C.safe (hs x hx).1 (hs x hx).2⟩
  · intro m meth c A a g mk v t L k n Y hp _ _ hE
    obtain ⟨e1, e2, ⟨v', e3, e4⟩, e5⟩ := hE
    cases e3
    subst e1 e2
    refine ⟨L, e4, rfl, rfl, rfl, (CHv.at Y hZ hEL H).trans ?_⟩
    rw [← hp.2.1]
    exact e5
theorem own_W.call (w : own_W s Z EL own mc h0 vm0 h) {vm1 : Vm} {h1 : Heap} (hS : (s.setVm vm0).Since vm1 h1.size) (hg : h.size ≤ h1.size) (C : CHr Z EL vm0 h vm1 h1) : own_W s Z EL own mc h0 vm1 h1 := by
  obtain ⟨⟨k0, a, b⟩, z, o, C0⟩ := w
  exact ⟨⟨h1.size, a.trans hS (Nat.le_trans b hg), Nat.le_refl _⟩, State.Warmed39.trans (t := s.setVm vm0) z hS.1, (hS.1.alike.findClass _ _).trans o, C0.trans C⟩
theorem own_cSW (X : Stand p l e R (s.setVm vm0) m args below meth c T locs cells slots) (hx : p.tables.exec = Jvm.exec) (w : own_W s Z EL own m.cls h0 vm0 h) {index : Nat} {y : MethodName} {bytes : ByteArray} {maxL : Nat} {ret : Option FieldType}
    (w1 : (Cond.methodLink own index y).before a0 Z = true) (w2 : (Cond.static y).before a0 Z = true) (w3 : (Cond.initialized y.cls).before a0 Z = true) (w4 : (Cond.code y bytes maxL ret).before a0 Z = true) (hy : y.cls ≠ "java/lang/invoke/MethodHandle" ∧ y.cls ≠ "java/lang/invoke/VarHandle") (eT : T.heap = h)
    {W dc ds : Nat} {Qc : Option Value → Heap → List Loc → Prop} {argsL rest : List Value} (hK : own_BkW l R p e below s args y W Z EL vm0 h argsL.toArray dc ds Qc) {pc : Nat} {Ls : Array Slot} {stk : List Value} (hsize : Ls.size = c.maxLocals) (hlen : ∀ sig, parseMethodDescriptor y.desc = some sig → argsL.length = sig.parameters.length)
    (hstk : stk = argsL.reverse ++ rest) (hW : (rest.map fun v => v.category).sum ≤ W) (hd : decode c.code pc = .ok (.invokestatic index, 3)) (h1 : cells + dc ≤ R.cells) (h2 : slots + ds ≤ R.slots) :
    ∃ v L T', Stand p l e R (s.setVm T'.vm) m args below meth c T' (locs ++ L) (cells + dc) (slots + ds) ∧ Qc v T'.heap L ∧ own_W s Z EL own m.cls h0 T'.vm T'.heap ∧ CHr Z EL vm0 h T'.vm T'.heap ∧ ∀ t, Steps p.tables e below (T'.setTop (mkF m (pc + 3) Ls (v.toList ++ rest))) t → Steps p.tables e below (T.setTop (mkF m pc Ls stk)) t := by
  have hZ : Z.Warmed39 (s.setVm vm0).vm := w.2.1
  obtain ⟨v, _, ⟨T', L', k', n'⟩, -, X', hS, hg, ⟨L, hQ, q1, q2, q3, C⟩, st⟩ := callSS X hx (y := y) w.2.2.1 (mvT hZ w1) (mvT hZ w2) (mvT hZ w3) (mvT hZ w4) hy hK (g := mkF m pc Ls stk) rfl hsize (argsL := argsL) (rest := rest) hlen hstk (by simpa using hW) hd (fun _ _ => ⟨rfl, eT, h1, h2⟩)
  dsimp only [Pt.U, Pt.locs, Pt.cells, Pt.slots] at X' hQ q1 q2 q3 st hS hg C
  subst q1 q2 q3
  subst eT
  exact ⟨v, L, T', X', hQ, w.call hS hg C, C, fun t q => st.trans q⟩
theorem own_cVW (X : Stand p l e R (s.setVm vm0) m args below meth c T locs cells slots) (hx : p.tables.exec = Jvm.exec) (w : own_W s Z EL own m.cls h0 vm0 h) {C : String} {index : Nat} {y z : MethodName}
    (w1 : (Cond.methodLink own index y).before a0 Z = true) (w2 : (Cond.declares y).before a0 Z = true) (hnf : NotFace (s.setVm vm0) y) (w3 : (Cond.selects C y z).before a0 Z = true) (w4 : (Cond.instanceMethod z).before a0 Z = true) (hy : y.cls ≠ "java/lang/invoke/MethodHandle" ∧ y.cls ≠ "java/lang/invoke/VarHandle") (eT : T.heap = h)
    {b : Addr} (E : Exa Z h b C) {W dc ds : Nat} {Qc : Option Value → Heap → List Loc → Prop} {argsL rest : List Value} (hK : own_BkW l R p e below s args z W Z EL vm0 h (Value.ref b :: argsL).toArray dc ds Qc) {pc : Nat} {Ls : Array Slot} {stk : List Value} (hsize : Ls.size = c.maxLocals) (hlen : ∀ sig, parseMethodDescriptor y.desc = some sig → argsL.length = sig.parameters.length)
    (hstk : stk = argsL.reverse ++ .ref b :: rest) (hW : (rest.map fun v => v.category).sum ≤ W) (hd : decode c.code pc = .ok (.invokevirtual index, 3)) (h1 : cells + dc ≤ R.cells) (h2 : slots + ds ≤ R.slots) :
    ∃ v L T', Stand p l e R (s.setVm T'.vm) m args below meth c T' (locs ++ L) (cells + dc) (slots + ds) ∧ Qc v T'.heap L ∧ own_W s Z EL own m.cls h0 T'.vm T'.heap ∧ CHr Z EL vm0 h T'.vm T'.heap ∧ ∀ t, Steps p.tables e below (T'.setTop (mkF m (pc + 3) Ls (v.toList ++ rest))) t → Steps p.tables e below (T.setTop (mkF m pc Ls stk)) t := by
  have hZ : Z.Warmed39 (s.setVm vm0).vm := w.2.1
  obtain ⟨cq, kq, qa, qb, qc⟩ := isOf hZ eT E
  obtain ⟨v, _, ⟨T', L', k', n'⟩, -, X', hS, hg, ⟨L, hQ, q1, q2, q3, C⟩, st⟩ := X.virtualBackS hx (y := y) (z := z) w.2.2.1 (mvT hZ w1) (mvT hZ w2) hnf (mvT hZ w3) (mvT hZ w4) hy hK qa qc (g := mkF m pc Ls stk) rfl hsize (Steps.refl _) (argsL := argsL) (rest := rest) hlen hstk (by simpa using hW) hd (fun _ _ => ⟨rfl, eT, h1, h2⟩)
  dsimp only [Pt.U, Pt.locs, Pt.cells, Pt.slots] at X' hQ q1 q2 q3 st hS hg C
  subst q1 q2 q3
  subst eT
  exact ⟨v, L, T', X', hQ, w.call hS hg C, C, fun t q => st.trans q⟩
theorem own_cIW (X : Stand p l e R (s.setVm vm0) m args below meth c T locs cells slots) (hx : p.tables.exec = Jvm.exec) (w : own_W s Z EL own m.cls h0 vm0 h) {index : Nat} {y : MethodName} {bytes : ByteArray} {maxL : Nat} (hn : y.name = "<init>")
    (w1 : (Cond.methodLink own index y).before a0 Z = true) (w2 : (Cond.instanceMethod y).before a0 Z = true) (w4 : (Cond.code y bytes maxL none).before a0 Z = true) (hy : y.cls ≠ "java/lang/invoke/MethodHandle" ∧ y.cls ≠ "java/lang/invoke/VarHandle") (eT : T.heap = h)
    {b : Addr} {W dc ds : Nat} {Qc : Option Value → Heap → List Loc → Prop} {argsL rest : List Value} (hK : own_BkW l R p e below s args y W Z EL vm0 h (Value.ref b :: argsL).toArray dc ds Qc) {pc : Nat} {Ls : Array Slot} {stk : List Value} (hsize : Ls.size = c.maxLocals) (hlen : ∀ sig, parseMethodDescriptor y.desc = some sig → argsL.length = sig.parameters.length)
    (hstk : stk = argsL.reverse ++ .ref b :: rest) (hW : (rest.map fun v => v.category).sum ≤ W) (hd : decode c.code pc = .ok (.invokespecial index, 3)) (h1 : cells + dc ≤ R.cells) (h2 : slots + ds ≤ R.slots) :
    ∃ v L T', Stand p l e R (s.setVm T'.vm) m args below meth c T' (locs ++ L) (cells + dc) (slots + ds) ∧ Qc v T'.heap L ∧ own_W s Z EL own m.cls h0 T'.vm T'.heap ∧ CHr Z EL vm0 h T'.vm T'.heap ∧ ∀ t, Steps p.tables e below (T'.setTop (mkF m (pc + 3) Ls (v.toList ++ rest))) t → Steps p.tables e below (T.setTop (mkF m pc Ls stk)) t := by
  have hZ : Z.Warmed39 (s.setVm vm0).vm := w.2.1
  obtain ⟨v, _, ⟨T', L', k', n'⟩, -, X', hS, hg, ⟨L, hQ, q1, q2, q3, C⟩, st⟩ := X.specialBackS hx (y := y) hn w.2.2.1 (mvT hZ w1) (mvT hZ w2) (mvT hZ w4) hy hK (g := mkF m pc Ls stk) rfl hsize (Steps.refl _) (a := b) (argsL := argsL) (rest := rest) hlen hstk (by simpa using hW) hd (fun _ _ => ⟨rfl, eT, h1, h2⟩)
  dsimp only [Pt.U, Pt.locs, Pt.cells, Pt.slots] at X' hQ q1 q2 q3 st hS hg C
  subst q1 q2 q3
  subst eT
  exact ⟨v, L, T', X', hQ, w.call hS hg C, C, fun t q => st.trans q⟩
end OwnWide
end Jvm.Pilot.@@N@@
namespace Jvm.Pilot.@@N@@
open Jvm Jvm.ClassFile Sem Op Lib Jvm.Free Jvm.Stand Jvm.LawKit Jvm.RoadKit Bundle Jvm.Pilot.@@N@@.Jvm.D
abbrev own_EL : List (String × Nat) := [("java/lang/String", 7), ("org/proofstand/runner/VmModeNamedPinLaw", 26), ("org/proofstand/runner/VmModeNamedPinLaw", 28)]
theorem own_ew {Z : State} {a0 : Array Value} (hw : ∀ d ∈ tables_1, d.before a0 Z = true) : EW Z a0 own_EL := (EW.cons (hw _ (List.mem_of_getElem? (i := 144) rfl)) (by decide) (EW.cons (hw _ (List.mem_of_getElem? (i := 0) rfl)) (by decide) (EW.cons (hw _ (List.mem_of_getElem? (i := 110) rfl)) (by decide) EW.nil)))
theorem own_wS {Z : State} {a0 : Array Value} (hw : ∀ d ∈ tables_1, d.before a0 Z = true) : ∀ a ∈ Bundle.stringAtoms, a.before a0 Z = true := fun a ha => hw a ((by decide +kernel : ∀ a ∈ Bundle.stringAtoms, a ∈ tables_1) a ha)
theorem own_hws {Z : State} {a0 : Array Value} (hw : ∀ d ∈ tables_1, d.before a0 Z = true) : ∀ d ∈ StrChars.Road.words, d.before a0 Z = true := fun d hd => hw d ((by decide +kernel : ∀ d ∈ StrChars.Road.words, d ∈ tables_1) d hd)
theorem own_hln {Z : State} {a0 : Array Value} (hw : ∀ d ∈ tables_1, d.before a0 Z = true) : ∀ d ∈ StrChars.Road.wordsLen, d.before a0 Z = true := fun d hd => hw d ((by decide +kernel : ∀ d ∈ StrChars.Road.wordsLen, d ∈ tables_1) d hd)
theorem own_hch {Z : State} {a0 : Array Value} (hw : ∀ d ∈ tables_1, d.before a0 Z = true) : ∀ d ∈ StrChars.Road.wordsChN, d.before a0 Z = true := fun d hd => hw d ((by decide +kernel : ∀ d ∈ StrChars.Road.wordsChN, d ∈ tables_1) d hd)
theorem own_heq {Z : State} {a0 : Array Value} (hw : ∀ d ∈ tables_1, d.before a0 Z = true) : ∀ d ∈ StrChars.Road.wordsEq, d.before a0 Z = true := fun d hd => hw d ((by decide +kernel : ∀ d ∈ StrChars.Road.wordsEq, d ∈ tables_1) d hd)
theorem own_ltN {i j : Nat} (hj : j < 2 ^ 31) (h : i < j) : Int32.ofNat i < Int32.ofNat j := by
  rw [Int32.lt_iff_toInt_lt, Int32.toInt_ofNat_small (by omega), Int32.toInt_ofNat_small hj]; omega
theorem own_ltI {i j : Nat} (hi : i < 2 ^ 31) (hj : j < 2 ^ 31) (h : Int32.ofNat i < Int32.ofNat j) : i < j := by
  rw [Int32.lt_iff_toInt_lt, Int32.toInt_ofNat_small hi, Int32.toInt_ofNat_small hj] at h; omega
theorem own_ef0 (m : MethodId) (x0 : Addr) (x1 : Int32) (x2 : Int32) (x3 : Int32) (x4 : Int32) (x5 : Int32) : entryFrame m #[(.ref x0), (.int x1), (.int x2), (.int x3), (.int x4), (.int x5)] 6 = mkF m 0 #[.val (.ref x0), .val (.int x1), .val (.int x2), .val (.int x3), .val (.int x4), .val (.int x5)] [] := by first | (simp [entryFrame, mkF, argsToLocals, Value.category, maxLocals]; done) | rfl
theorem own_pn0 : plainName "org/proofstand/runner/VmModeNamedPinLaw" = true := by first | (simp [plainName, overriddenIn]; done) | decide +kernel
theorem own_d0_0 : decode method_2_code 0 = .ok (.iload_n 3, 1) := by decide +kernel
theorem own_d0_1 : decode method_2_code 1 = .ok (.ifCond .eq 11, 3) := by decide +kernel
theorem own_d0_12 : decode method_2_code 12 = .ok (.iload_n 1, 1) := by decide +kernel
theorem own_d0_13 : decode method_2_code 13 = .ok (.aload_n 0, 1) := by decide +kernel
theorem own_d0_14 : decode method_2_code 14 = .ok (.invokevirtual 7, 3) := by decide +kernel
theorem own_pd0 : parseMethodDescriptor "()I" = some ⟨[], some .int⟩ := by decide +kernel
theorem own_d0_17 : decode method_2_code 17 = .ok (.if_icmp .ge 9, 3) := by decide +kernel
theorem own_d0_20 : decode method_2_code 20 = .ok (.aload_n 0, 1) := by decide +kernel
theorem own_d0_21 : decode method_2_code 21 = .ok (.iload_n 1, 1) := by decide +kernel
theorem own_d0_22 : decode method_2_code 22 = .ok (.invokevirtual 13, 3) := by decide +kernel
theorem own_pd1 : parseMethodDescriptor "(I)C" = some ⟨[.int], some .char⟩ := by decide +kernel
theorem own_d0_25 : decode method_2_code 25 = .ok (.ireturn, 1) := by decide +kernel
theorem own_d0_26 : decode method_2_code 26 = .ok (.iload 5, 2) := by decide +kernel
theorem own_d0_28 : decode method_2_code 28 = .ok (.ireturn, 1) := by decide +kernel
theorem own_d0_4 : decode method_2_code 4 = .ok (.iload_n 1, 1) := by decide +kernel
theorem own_d0_5 : decode method_2_code 5 = .ok (.iload_n 2, 1) := by decide +kernel
theorem own_d0_6 : decode method_2_code 6 = .ok (.if_icmp .ne 6, 3) := by decide +kernel
theorem own_d0_9 : decode method_2_code 9 = .ok (.iload 4, 2) := by decide +kernel
theorem own_d0_11 : decode method_2_code 11 = .ok (.ireturn, 1) := by decide +kernel
def own_f_at (cs : List Int32) (k : Nat) (i pos mu rep fl : Int32) : Int32 := (if mu = (0 : Int32) then (if i < (Int32.ofNat cs.length) then (nar .char (cs.getD k 0)) else (nar .char fl)) else (if i = pos then (nar .char rep) else (if i < (Int32.ofNat cs.length) then (nar .char (cs.getD k 0)) else (nar .char fl))))
set_option maxRecDepth 65536 in
set_option maxHeartbeats 40000000 in
theorem own_rm_at (l : Launch) (Z : State) (a0 : Array Value) (hw : ∀ d ∈ tables_1, d.before a0 Z = true) (ws : List Jvm.Cond) (x t : Addr) (kb : ClassId) (cs : List Int32) (N2 : Int32) (vs : List Value) (i pos mu rep fl z : Int32) (fm : Value) (k n0 : Nat) (r : Int32) (h0 : Heap) (E : Exa Z h0 x "java/lang/String") (F : Fld Z h0 x "java/lang/String" "value" "[B" (.ref t)) (C : Fld Z h0 x "java/lang/String" "coder" "B" (.int (0 : Int32))) (K : Arv Z h0 t kb .byte N2 vs (.int (0 : Int32))) (hc : StrChars.Road.CodA cs (0 : Int32) N2 vs) (hb_ : ∀ c ∈ cs, ¬ c < 0 ∧ ¬ (65535 : Int32) < c) (l2 : cs.length ≤ 4000) (O : Sta Z Z.heap "java/lang/String" "COMPACT_STRINGS" "Z" (.int z)) (hz : ¬ z = (0 : Int32)) (Om : Sta Z Z.heap "jdk/internal/util/Preconditions" "SIOOBE_FORMATTER" "Ljava/util/function/BiFunction;" fm) (rf : fm.isRef = true) (X00 : Old Z n0 h0) (hi : i = Int32.ofNat k) (hk : k < 4000) (hr : r = (own_f_at cs k i pos mu rep fl)) :
    MetFree l (⟨"org/proofstand/runner/VmModeNamedPinLaw", "at", "(Ljava/lang/String;IIZCC)C"⟩ : MethodName) (head1 (Jvm.Cond.code (⟨"org/proofstand/runner/VmModeNamedPinLaw", "at", "(Ljava/lang/String;IIZCC)C"⟩ : MethodName) method_2_code 6 (some .char) :: ws) ({ frames := 4, cells := 0, slots := 0, locals := 53 } : Room)) (fun aa U => aa = #[(.ref x), (.int i), (.int pos), (.int mu), (.int rep), (.int fl)] ∧ Z.Warmed39 U.vm ∧ U.heap = h0) (fun _ _ _ _ _ => True) (fun _ U o_ U' => ∃ v L, o_ = .returned v ∧ (fun v h L => v = some (.int r) ∧ L = [] ∧ h = h0) v U'.heap L ∧ FrameEnd U o_ U' L ({ frames := 4, cells := 0, slots := 0, locals := 53 } : Room).cells ({ frames := 4, cells := 0, slots := 0, locals := 53 } : Room).slots) := by
  refine MetFree.of_bodySF (plainFor_of_name own_pn0) hisR ?_
  intro p e s m args below meth c s₁ Bd hml0 hP hK
  obtain ⟨rfl, hZ, hh⟩ := hP
  have hx := Bd.exec
  have hby := Bd.bytes
  have hml : c.maxLocals = 6 := hml0
  have hlk : meth.locks = false := BodyLoose.notSynchronized Bd
  have hown : s.vm.findClass "org/proofstand/runner/VmModeNamedPinLaw" = some m.cls := findClass_of_methodNamed Bd.named
  have hnm := (name_of_methodNamed Bd.named Bd.method).1
  have X0 : Stand p l e ({ frames := 4, cells := 0, slots := 0, locals := 53 } : Room) s m #[(.ref x), (.int i), (.int pos), (.int mu), (.int rep), (.int fl)] below meth c s₁ [] 0 0 := Stand.of_body Bd
  have e0 : s₁.heap = h0 := by rw [← hh, Bd.state]; rfl
  rw [own_ef0 m x i pos mu rep fl]
  show own_Go p e below s ({ frames := 4, cells := 0, slots := 0, locals := 53 } : Room).cells ({ frames := 4, cells := 0, slots := 0, locals := 53 } : Room).slots (fun v h L => v = some (.int r) ∧ L = [] ∧ h = h0) s₁ (mkF m 0 #[.val (.ref x), .val (.int i), .val (.int pos), .val (.int mu), .val (.int rep), .val (.int fl)] [])
  refine own_st (g' := (mkF m 1 #[.val (.ref x), .val (.int i), .val (.int pos), .val (.int mu), .val (.int rep), .val (.int fl)] [(.int mu)])) (fun _ q => XS.iloadN X0.here hx rfl (hb hby own_d0_0) rfl (q)) ?_
  by_cases hc1 : mu = (0 : Int32)
  · -- mu = (0 : Int32)
    refine own_st (g' := (mkF m 14 #[.val (.ref x), .val (.int i), .val (.int pos), .val (.int mu), .val (.int rep), .val (.int fl)] [(.ref x), (.int i)])) (fun _ q => XS.ifYes X0.here hx rfl (pc0 := 1) (pc' := 12) rfl (hb hby own_d0_1) rfl ((if0 _ _).trans (teq hc1).1) (by decide) (by decide) (XS.iloadN X0.here hx rfl (hb hby own_d0_12) rfl (XS.aloadN X0.here hx rfl (hb hby own_d0_13) rfl rfl (q)))) ?_
    have K2 : own_Bk l ({ frames := 4, cells := 0, slots := 0, locals := 53 } : Room) p e below s #[(.ref x), (.int i), (.int pos), (.int mu), (.int rep), (.int fl)] (⟨"java/lang/String", "length", "()I"⟩ : MethodName) 1 h0 #[(.ref x)] 0 0 (fun v h L => v = some (.int (Int32.ofNat cs.length)) ∧ L = [] ∧ h = h0) := StrChars.Road.lenW (s := s) (W := 1) hZ (own_hln hw) (kI := 4) (hw _ (List.mem_of_getElem? (i := 2) rfl)) E F C K hc hb_ (O.ext X00.2) hz l2 (by decide) (by decide)
    obtain ⟨T3, X3, e3, st3⟩ := own_pure (own_cV X0 hx hZ hown (hw _ (List.mem_of_getElem? (i := 15) rfl)) (hw _ (List.mem_of_getElem? (i := 16) rfl)) (notFace_of_selects (args := #[]) (mvT hZ (hw _ (List.mem_of_getElem? (i := 18) rfl)))) (hw _ (List.mem_of_getElem? (i := 18) rfl)) (hw _ (List.mem_of_getElem? (i := 17) rfl)) (by decide) e0 (h := h0) (b := x) E (argsL := []) (rest := [(.int i)]) K2 (pc := 14) (Ls := #[.val (.ref x), .val (.int i), .val (.int pos), .val (.int mu), .val (.int rep), .val (.int fl)]) (by rw [hml]; rfl) (lenOf own_pd0 rfl) rfl (Nat.le_of_eq rfl) (hb hby own_d0_14) (by decide) (by decide))
    refine own_st (g' := (mkF m 17 #[.val (.ref x), .val (.int i), .val (.int pos), .val (.int mu), .val (.int rep), .val (.int fl)] [(.int (Int32.ofNat cs.length)), (.int i)])) st3 ?_
    by_cases hc4 : i < (Int32.ofNat cs.length)
    · -- i < (Int32.ofNat cs.length)
      refine own_st (g' := (mkF m 22 #[.val (.ref x), .val (.int i), .val (.int pos), .val (.int mu), .val (.int rep), .val (.int fl)] [(.int i), (.ref x)])) (fun _ q => XS.icmpNo X3.here hx rfl (hb hby own_d0_17) rfl (tlt hc4).2.1 (XS.aloadN X3.here hx rfl (hb hby own_d0_20) rfl rfl (XS.iloadN X3.here hx rfl (hb hby own_d0_21) rfl (q)))) ?_
      have K5 : own_Bk l ({ frames := 4, cells := 0, slots := 0, locals := 53 } : Room) p e below s #[(.ref x), (.int i), (.int pos), (.int mu), (.int rep), (.int fl)] (⟨"java/lang/String", "charAt", "(I)C"⟩ : MethodName) 0 h0 #[(.ref x), (.int i)] 0 0 (fun v h L => v = some (.int (cs.getD k 0)) ∧ L = [] ∧ h = h0) := StrChars.Road.chN (s := s) (W := 0) hZ (own_hch hw) (kI := 4) (hw _ (List.mem_of_getElem? (i := 2) rfl)) E F C K hc hb_ (O.ext X00.2) hz (Om.ext X00.2) rf l2 (i := k) (own_ltI (by omega) (by omega) (hi ▸ hc4)) (j := i) hi (by decide) (by decide)
      obtain ⟨T6, X6, e6, st6⟩ := own_pure (own_cV X3 hx hZ hown (hw _ (List.mem_of_getElem? (i := 28) rfl)) (hw _ (List.mem_of_getElem? (i := 29) rfl)) (notFace_of_selects (args := #[]) (mvT hZ (hw _ (List.mem_of_getElem? (i := 31) rfl)))) (hw _ (List.mem_of_getElem? (i := 31) rfl)) (hw _ (List.mem_of_getElem? (i := 30) rfl)) (by decide) e3 (h := h0) (b := x) E (argsL := [(.int i)]) (rest := []) K5 (pc := 22) (Ls := #[.val (.ref x), .val (.int i), .val (.int pos), .val (.int mu), .val (.int rep), .val (.int fl)]) (by rw [hml]; rfl) (lenOf own_pd1 rfl) rfl (Nat.le_of_eq rfl) (hb hby own_d0_22) (by decide) (by decide))
      refine own_st (g' := (mkF m 25 #[.val (.ref x), .val (.int i), .val (.int pos), .val (.int mu), .val (.int rep), .val (.int fl)] [(.int (cs.getD k 0))])) st6 ?_
      exact own_goN X6 hlk hx (t := .char) (by simp) Bd.returns (hb hby own_d0_25) ⟨by subst hr; rw [own_f_at, if_pos hc1, if_pos hc4] <;> rfl, rfl, e6⟩ (by decide) (by decide)
    · -- not: i < (Int32.ofNat cs.length)
      refine own_st (g' := (mkF m 28 #[.val (.ref x), .val (.int i), .val (.int pos), .val (.int mu), .val (.int rep), .val (.int fl)] [(.int fl)])) (fun _ q => XS.icmpYes X3.here hx rfl (pc0 := 17) (pc' := 26) rfl (hb hby own_d0_17) rfl (flt hc4).2.1 (by decide) (by decide) (XS.iload X3.here hx rfl (hb hby own_d0_26) rfl (q))) ?_
      exact own_goN X3 hlk hx (t := .char) (by simp) Bd.returns (hb hby own_d0_28) ⟨by subst hr; rw [own_f_at, if_pos hc1, if_neg hc4] <;> rfl, rfl, e3⟩ (by decide) (by decide)
  · -- not: mu = (0 : Int32)
    refine own_st (g' := (mkF m 6 #[.val (.ref x), .val (.int i), .val (.int pos), .val (.int mu), .val (.int rep), .val (.int fl)] [(.int pos), (.int i)])) (fun _ q => XS.ifNo X0.here hx rfl (hb hby own_d0_1) rfl ((if0 _ _).trans (feq hc1).1) (XS.iloadN X0.here hx rfl (hb hby own_d0_4) rfl (XS.iloadN X0.here hx rfl (hb hby own_d0_5) rfl (q)))) ?_
    by_cases hc7 : i = pos
    · -- i = pos
      refine own_st (g' := (mkF m 11 #[.val (.ref x), .val (.int i), .val (.int pos), .val (.int mu), .val (.int rep), .val (.int fl)] [(.int rep)])) (fun _ q => XS.icmpNo X0.here hx rfl (hb hby own_d0_6) rfl (teq hc7).2 (XS.iload X0.here hx rfl (hb hby own_d0_9) rfl (q))) ?_
      exact own_goN X0 hlk hx (t := .char) (by simp) Bd.returns (hb hby own_d0_11) ⟨by subst hr; rw [own_f_at, if_neg hc1, if_pos hc7] <;> rfl, rfl, e0⟩ (by decide) (by decide)
    · -- not: i = pos
      refine own_st (g' := (mkF m 14 #[.val (.ref x), .val (.int i), .val (.int pos), .val (.int mu), .val (.int rep), .val (.int fl)] [(.ref x), (.int i)])) (fun _ q => XS.icmpYes X0.here hx rfl (pc0 := 6) (pc' := 12) rfl (hb hby own_d0_6) rfl (feq hc7).2 (by decide) (by decide) (XS.iloadN X0.here hx rfl (hb hby own_d0_12) rfl (XS.aloadN X0.here hx rfl (hb hby own_d0_13) rfl rfl (q)))) ?_
      have K8 : own_Bk l ({ frames := 4, cells := 0, slots := 0, locals := 53 } : Room) p e below s #[(.ref x), (.int i), (.int pos), (.int mu), (.int rep), (.int fl)] (⟨"java/lang/String", "length", "()I"⟩ : MethodName) 1 h0 #[(.ref x)] 0 0 (fun v h L => v = some (.int (Int32.ofNat cs.length)) ∧ L = [] ∧ h = h0) := StrChars.Road.lenW (s := s) (W := 1) hZ (own_hln hw) (kI := 4) (hw _ (List.mem_of_getElem? (i := 2) rfl)) E F C K hc hb_ (O.ext X00.2) hz l2 (by decide) (by decide)
      obtain ⟨T9, X9, e9, st9⟩ := own_pure (own_cV X0 hx hZ hown (hw _ (List.mem_of_getElem? (i := 15) rfl)) (hw _ (List.mem_of_getElem? (i := 16) rfl)) (notFace_of_selects (args := #[]) (mvT hZ (hw _ (List.mem_of_getElem? (i := 18) rfl)))) (hw _ (List.mem_of_getElem? (i := 18) rfl)) (hw _ (List.mem_of_getElem? (i := 17) rfl)) (by decide) e0 (h := h0) (b := x) E (argsL := []) (rest := [(.int i)]) K8 (pc := 14) (Ls := #[.val (.ref x), .val (.int i), .val (.int pos), .val (.int mu), .val (.int rep), .val (.int fl)]) (by rw [hml]; rfl) (lenOf own_pd0 rfl) rfl (Nat.le_of_eq rfl) (hb hby own_d0_14) (by decide) (by decide))
      refine own_st (g' := (mkF m 17 #[.val (.ref x), .val (.int i), .val (.int pos), .val (.int mu), .val (.int rep), .val (.int fl)] [(.int (Int32.ofNat cs.length)), (.int i)])) st9 ?_
      by_cases hc10 : i < (Int32.ofNat cs.length)
      · -- i < (Int32.ofNat cs.length)
        refine own_st (g' := (mkF m 22 #[.val (.ref x), .val (.int i), .val (.int pos), .val (.int mu), .val (.int rep), .val (.int fl)] [(.int i), (.ref x)])) (fun _ q => XS.icmpNo X9.here hx rfl (hb hby own_d0_17) rfl (tlt hc10).2.1 (XS.aloadN X9.here hx rfl (hb hby own_d0_20) rfl rfl (XS.iloadN X9.here hx rfl (hb hby own_d0_21) rfl (q)))) ?_
        have K11 : own_Bk l ({ frames := 4, cells := 0, slots := 0, locals := 53 } : Room) p e below s #[(.ref x), (.int i), (.int pos), (.int mu), (.int rep), (.int fl)] (⟨"java/lang/String", "charAt", "(I)C"⟩ : MethodName) 0 h0 #[(.ref x), (.int i)] 0 0 (fun v h L => v = some (.int (cs.getD k 0)) ∧ L = [] ∧ h = h0) := StrChars.Road.chN (s := s) (W := 0) hZ (own_hch hw) (kI := 4) (hw _ (List.mem_of_getElem? (i := 2) rfl)) E F C K hc hb_ (O.ext X00.2) hz (Om.ext X00.2) rf l2 (i := k) (own_ltI (by omega) (by omega) (hi ▸ hc10)) (j := i) hi (by decide) (by decide)
        obtain ⟨T12, X12, e12, st12⟩ := own_pure (own_cV X9 hx hZ hown (hw _ (List.mem_of_getElem? (i := 28) rfl)) (hw _ (List.mem_of_getElem? (i := 29) rfl)) (notFace_of_selects (args := #[]) (mvT hZ (hw _ (List.mem_of_getElem? (i := 31) rfl)))) (hw _ (List.mem_of_getElem? (i := 31) rfl)) (hw _ (List.mem_of_getElem? (i := 30) rfl)) (by decide) e9 (h := h0) (b := x) E (argsL := [(.int i)]) (rest := []) K11 (pc := 22) (Ls := #[.val (.ref x), .val (.int i), .val (.int pos), .val (.int mu), .val (.int rep), .val (.int fl)]) (by rw [hml]; rfl) (lenOf own_pd1 rfl) rfl (Nat.le_of_eq rfl) (hb hby own_d0_22) (by decide) (by decide))
        refine own_st (g' := (mkF m 25 #[.val (.ref x), .val (.int i), .val (.int pos), .val (.int mu), .val (.int rep), .val (.int fl)] [(.int (cs.getD k 0))])) st12 ?_
        exact own_goN X12 hlk hx (t := .char) (by simp) Bd.returns (hb hby own_d0_25) ⟨by subst hr; rw [own_f_at, if_neg hc1, if_neg hc7, if_pos hc10] <;> rfl, rfl, e12⟩ (by decide) (by decide)
      · -- not: i < (Int32.ofNat cs.length)
        refine own_st (g' := (mkF m 28 #[.val (.ref x), .val (.int i), .val (.int pos), .val (.int mu), .val (.int rep), .val (.int fl)] [(.int fl)])) (fun _ q => XS.icmpYes X9.here hx rfl (pc0 := 17) (pc' := 26) rfl (hb hby own_d0_17) rfl (flt hc10).2.1 (by decide) (by decide) (XS.iload X9.here hx rfl (hb hby own_d0_26) rfl (q))) ?_
        exact own_goN X9 hlk hx (t := .char) (by simp) Bd.returns (hb hby own_d0_28) ⟨by subst hr; rw [own_f_at, if_neg hc1, if_neg hc7, if_neg hc10] <;> rfl, rfl, e9⟩ (by decide) (by decide)
theorem own_ef1 (m : MethodId) (x0 : Addr) (x1 : Addr) (x2 : Int32) (x3 : Int32) : entryFrame m #[(.ref x0), (.ref x1), (.int x2), (.int x3), .null] 6 = mkF m 0 #[.val (.ref x0), .val (.ref x1), .val (.int x2), .val (.int x3), .val .null, .unset] [] := by first | (simp [entryFrame, mkF, argsToLocals, Value.category, maxLocals]; done) | rfl
theorem own_pn1 : plainName "java/lang/String" = true := by first | (simp [plainName, overriddenIn]; done) | decide +kernel
abbrev own_Q_sie2 (Z : State) (x b : Addr) (n0 : Nat) (h0 : Heap) : Option Value → Heap → List Loc → Prop := fun v h L => v = none ∧ Fr n0 L ∧ Keep h0 h [x] ∧ Exa Z h x "java/lang/String" ∧ ∃ t kb, t < h.size ∧ Fld Z h x "java/lang/String" "value" "[B" (.ref t) ∧ Fld Z h x "java/lang/String" "coder" "B" (.int (0 : Int32)) ∧ Arv Z h t kb .byte (0 : Int32) [] (.int (0 : Int32))
theorem own_d1_0 : decode jdk_42_method_149_code 0 = .ok (.aload_n 0, 1) := by decide +kernel
theorem own_d1_1 : decode jdk_42_method_149_code 1 = .ok (.invokespecial 1, 3) := by decide +kernel
theorem own_d1_4 : decode jdk_42_method_149_code 4 = .ok (.iload_n 3, 1) := by decide +kernel
theorem own_d1_5 : decode jdk_42_method_149_code 5 = .ok (.ifCond .ne 22, 3) := by decide +kernel
theorem own_d1_8 : decode jdk_42_method_149_code 8 = .ok (.aload_n 0, 1) := by decide +kernel
theorem own_d1_9 : decode jdk_42_method_149_code 9 = .ok (.ldc 7, 2) := by decide +kernel
theorem own_d1_11 : decode jdk_42_method_149_code 11 = .ok (.getfield 9, 3) := by decide +kernel
theorem own_d1_14 : decode jdk_42_method_149_code 14 = .ok (.putfield 9, 3) := by decide +kernel
theorem own_d1_17 : decode jdk_42_method_149_code 17 = .ok (.aload_n 0, 1) := by decide +kernel
theorem own_d1_18 : decode jdk_42_method_149_code 18 = .ok (.ldc 7, 2) := by decide +kernel
theorem own_d1_20 : decode jdk_42_method_149_code 20 = .ok (.getfield 15, 3) := by decide +kernel
theorem own_d1_23 : decode jdk_42_method_149_code 23 = .ok (.putfield 15, 3) := by decide +kernel
theorem own_d1_26 : decode jdk_42_method_149_code 26 = .ok (.return_, 1) := by decide +kernel
set_option maxRecDepth 65536 in
set_option maxHeartbeats 40000000 in
theorem own_rm_sie2 (l : Launch) (Z : State) (a0 : Array Value) (hw : ∀ d ∈ tables_1, d.before a0 Z = true) (ws : List Jvm.Cond) (x b : Addr) (n0 : Nat) (h0 : Heap) (Z0 : n0 ≤ h0.size) (X00 : Old Z n0 h0) (E : Exa Z h0 x "java/lang/String") (F : Fld Z h0 x "java/lang/String" "value" "[B" .null) (C : Fld Z h0 x "java/lang/String" "coder" "B" (.int (0 : Int32))) (gx : n0 ≤ x) :
    MetFree l (⟨"java/lang/String", "<init>", "([CIILjava/lang/Void;)V"⟩ : MethodName) (head1 (Jvm.Cond.code (⟨"java/lang/String", "<init>", "([CIILjava/lang/Void;)V"⟩ : MethodName) jdk_42_method_149_code 6 none :: ws) ({ frames := 1, cells := 4, slots := 8, locals := 12 } : Room)) (fun aa U => aa = #[(.ref x), (.ref b), (.int (0 : Int32)), (.int (0 : Int32)), .null] ∧ Z.Warmed39 U.vm ∧ U.heap = h0 ∧ CHv Z own_EL U.vm h0 ∧ ∀ y_ ∈ ([x] : List Addr), Safe Z own_EL U.vm h0 y_) (fun _ _ _ _ _ => True) (fun _ U o_ U' => ∃ v L, o_ = .returned v ∧ (own_Q_sie2 Z x b n0 h0) v U'.heap L ∧ CHr Z own_EL U.vm U.heap U'.vm U'.heap ∧ ReturnedEndW U o_ U' L ({ frames := 1, cells := 4, slots := 8, locals := 12 } : Room).cells ({ frames := 1, cells := 4, slots := 8, locals := 12 } : Room).slots) := by
  refine MetFree.of_bodySF (plainFor_of_name own_pn1) hisR ?_
  intro p e s m args below meth c s₁ Bd hml0 hP hK
  obtain ⟨rfl, hZ, hh, hH, hSf⟩ := hP
  have hx := Bd.exec
  have hby := Bd.bytes
  have hml : c.maxLocals = 6 := hml0
  have hlk : meth.locks = false := BodyLoose.notSynchronized Bd
  have hown : s.vm.findClass "java/lang/String" = some m.cls := findClass_of_methodNamed Bd.named
  have hnm := (name_of_methodNamed Bd.named Bd.method).1
  have X0 : Stand p l e ({ frames := 1, cells := 4, slots := 8, locals := 12 } : Room) (s.setVm s.vm) m #[(.ref x), (.ref b), (.int (0 : Int32)), (.int (0 : Int32)), .null] below meth c s₁ [] 0 0 := Stand.of_body Bd
  have e0 : s₁.heap = h0 := by rw [← hh, Bd.state]; rfl
  have hEL : EW Z a0 own_EL := own_ew hw
  have hSA : ∀ a ∈ Bundle.stringAtoms, a.before a0 Z = true := own_wS hw
  have W0 : own_W s Z own_EL "java/lang/String" m.cls h0 s.vm h0 := own_W.start hZ hown hH
  rw [own_ef1 m x b (0 : Int32) (0 : Int32)]
  show own_GoW p e below s Z own_EL ({ frames := 1, cells := 4, slots := 8, locals := 12 } : Room).cells ({ frames := 1, cells := 4, slots := 8, locals := 12 } : Room).slots (own_Q_sie2 Z x b n0 h0) s₁ (mkF m 0 #[.val (.ref x), .val (.ref b), .val (.int (0 : Int32)), .val (.int (0 : Int32)), .val .null, .unset] [])
  have N0 := Fr.nil n0
  refine own_stW (g' := (mkF m 1 #[.val (.ref x), .val (.ref b), .val (.int (0 : Int32)), .val (.int (0 : Int32)), .val .null, .unset] [(.ref x)])) (fun _ q => XS.aloadN X0.here hx rfl (hb hby own_d1_0) rfl rfl (q)) ?_
  obtain ⟨T1, X1, e1, st1⟩ := initO X0 hx W0.2.1 W0.2.2.1 (hw _ (List.mem_of_getElem? (i := 59) rfl)) (hw _ (List.mem_of_getElem? (i := 60) rfl)) (hw _ (List.mem_of_getElem? (i := 61) rfl)) e0 (g := (mkF m 1 #[.val (.ref x), .val (.ref b), .val (.int (0 : Int32)), .val (.int (0 : Int32)), .val .null, .unset] [(.ref x)])) rfl (by rw [hml]; rfl) rfl (hb hby own_d1_1) (by decide) (W := 0) (by show 2 * 0 + _ ≤ _; exact Nat.le_of_eq rfl) (by decide)
  refine own_stW (g' := (mkF m 4 #[.val (.ref x), .val (.ref b), .val (.int (0 : Int32)), .val (.int (0 : Int32)), .val .null, .unset] [])) st1 ?_
  refine own_stW (g' := (mkF m 9 #[.val (.ref x), .val (.ref b), .val (.int (0 : Int32)), .val (.int (0 : Int32)), .val .null, .unset] [(.ref x)])) (fun _ q => XS.iloadN X1.here hx rfl (hb hby own_d1_4) rfl (XS.ifNo X1.here hx rfl (hb hby own_d1_5) rfl ((if0 _ _).trans (teq (by decide : (0 : Int32) = (0 : Int32))).2) (XS.aloadN X1.here hx rfl (hb hby own_d1_8) rfl rfl (q)))) ?_
  obtain ⟨a2, T2, h2, t2, kb2, X2, e2, E2, w2, sf2, Ea2, Ca2, Fa2, Va2, ns2, st2⟩ := own_ldcC X1 hx W0 hEL (hw _ (List.mem_of_getElem? (i := 144) rfl)) hSA e1 (by decide) (vs := []) (z := (0 : Int32)) (by decide) (by decide) rfl (pc := 9) (Ls := #[.val (.ref x), .val (.ref b), .val (.int (0 : Int32)), .val (.int (0 : Int32)), .val .null, .unset]) (stk := [(.ref x)]) (hb hby own_d1_9) (n := 0) (by decide) (by decide) (by decide) (by decide)
  refine own_stW (g' := (mkF m 11 #[.val (.ref x), .val (.ref b), .val (.int (0 : Int32)), .val (.int (0 : Int32)), .val .null, .unset] [(.ref a2), (.ref x)])) st2 ?_
  obtain ⟨T3, X3, e3, st3⟩ := getF X2 hx w2.2.1 w2.2.2.1 (host := "") (Or.inl (hw _ (List.mem_of_getElem? (i := 20) rfl))) Via.refl e2 Fa2 (g := (mkF m 11 #[.val (.ref x), .val (.ref b), .val (.int (0 : Int32)), .val (.int (0 : Int32)), .val .null, .unset] [(.ref a2), (.ref x)])) rfl rfl (hb hby own_d1_11)
  refine own_stW (g' := (mkF m 14 #[.val (.ref x), .val (.ref b), .val (.int (0 : Int32)), .val (.int (0 : Int32)), .val .null, .unset] [(.ref t2), (.ref x)])) st3 ?_
  obtain ⟨T4, h4, X4, e4, W4, st4⟩ := putF X3 hx w2.2.1 w2.2.2.1 (host := "") (Or.inl (hw _ (List.mem_of_getElem? (i := 20) rfl))) Via.refl e3 (F.ext E2) (E.ext E2) (Or.inr ⟨(hw _ (List.mem_of_getElem? (i := 4) rfl)), rfl, hnm⟩) (hw _ (List.mem_of_getElem? (i := 2) rfl)) (ty := (.array .byte)) (by decide) rfl rfl (g := (mkF m 14 #[.val (.ref x), .val (.ref b), .val (.int (0 : Int32)), .val (.int (0 : Int32)), .val .null, .unset] [(.ref t2), (.ref x)])) rfl rfl (hb hby own_d1_14)
  have F4 : Fld Z h4 x "java/lang/String" "value" "[B" (.ref t2) := (F.ext E2).same W4
  have N4 := Fr.snoc X4 N0 gx
  have w5 := w2.wr W4 (sf2 _ E.lt (hSf _ (List.mem_of_getElem? (i := 0) rfl)))
  refine own_stW (g' := (mkF m 17 #[.val (.ref x), .val (.ref b), .val (.int (0 : Int32)), .val (.int (0 : Int32)), .val .null, .unset] [])) st4 ?_
  refine own_stW (g' := (mkF m 18 #[.val (.ref x), .val (.ref b), .val (.int (0 : Int32)), .val (.int (0 : Int32)), .val .null, .unset] [(.ref x)])) (fun _ q => XS.aloadN X4.here hx rfl (hb hby own_d1_17) rfl rfl (q)) ?_
  obtain ⟨a6, T6, h6, t6, kb6, X6, e6, E6, w6, sf6, Ea6, Ca6, Fa6, Va6, ns6, st6⟩ := own_ldcC X4 hx w5 hEL (hw _ (List.mem_of_getElem? (i := 144) rfl)) hSA e4 (by decide) (vs := []) (z := (0 : Int32)) (by decide) (by decide) rfl (pc := 18) (Ls := #[.val (.ref x), .val (.ref b), .val (.int (0 : Int32)), .val (.int (0 : Int32)), .val .null, .unset]) (stk := [(.ref x)]) (hb hby own_d1_18) (n := 0) (by decide) (by decide) (by decide) (by decide)
  refine own_stW (g' := (mkF m 20 #[.val (.ref x), .val (.ref b), .val (.int (0 : Int32)), .val (.int (0 : Int32)), .val .null, .unset] [(.ref a6), (.ref x)])) st6 ?_
  obtain ⟨T7, X7, e7, st7⟩ := getF X6 hx w6.2.1 w6.2.2.1 (host := "") (Or.inl (hw _ (List.mem_of_getElem? (i := 27) rfl))) Via.refl e6 Ca6 (g := (mkF m 20 #[.val (.ref x), .val (.ref b), .val (.int (0 : Int32)), .val (.int (0 : Int32)), .val .null, .unset] [(.ref a6), (.ref x)])) rfl rfl (hb hby own_d1_20)
  refine own_stW (g' := (mkF m 23 #[.val (.ref x), .val (.ref b), .val (.int (0 : Int32)), .val (.int (0 : Int32)), .val .null, .unset] [(.int (0 : Int32)), (.ref x)])) st7 ?_
  obtain ⟨T8, h8, X8, e8, W8, st8⟩ := putFN X7 hx w6.2.1 w6.2.2.1 (hw _ (List.mem_of_getElem? (i := 27) rfl)) Via.refl e7 (((C.ext E2).other W4 (Or.inr (slot_ne (Or.inr (hw _ (List.mem_of_getElem? (i := 5) rfl))) (Or.inr (hw _ (List.mem_of_getElem? (i := 4) rfl))) (by decide) (t := .byte) (by decide) (t' := (.array .byte)) (by decide)))).ext E6) (((E.ext E2).wr W4).ext E6) (Or.inr ⟨(hw _ (List.mem_of_getElem? (i := 5) rfl)), rfl, hnm⟩) (hw _ (List.mem_of_getElem? (i := 2) rfl)) (ty := .byte) (v' := .int (0 : Int32)) (by decide) rfl rfl (g := (mkF m 23 #[.val (.ref x), .val (.ref b), .val (.int (0 : Int32)), .val (.int (0 : Int32)), .val .null, .unset] [(.int (0 : Int32)), (.ref x)])) rfl rfl (hb hby own_d1_23)
  have F8 : Fld Z h8 x "java/lang/String" "coder" "B" (.int (0 : Int32)) := (((C.ext E2).other W4 (Or.inr (slot_ne (Or.inr (hw _ (List.mem_of_getElem? (i := 5) rfl))) (Or.inr (hw _ (List.mem_of_getElem? (i := 4) rfl))) (by decide) (t := .byte) (by decide) (t' := (.array .byte)) (by decide)))).ext E6).same W8
  have N8 := Fr.snoc X8 N4 gx
  have w9 := w6.wr W8 (sf6 _ (Nat.lt_of_lt_of_le E.lt (Nat.le_trans E2.1 (Keep.of_wr W4).1)) (Safe.wr W4 (sf2 _ E.lt (hSf _ (List.mem_of_getElem? (i := 0) rfl))) w2.held (sf2 _ E.lt (hSf _ (List.mem_of_getElem? (i := 0) rfl)))))
  refine own_stW (g' := (mkF m 26 #[.val (.ref x), .val (.ref b), .val (.int (0 : Int32)), .val (.int (0 : Int32)), .val .null, .unset] [])) st8 ?_
  exact own_goWV X8 hh w9 hEL e8 hlk hx Bd.returns (hb hby own_d1_26) ⟨rfl, N8, (((((Keep.refl h0 [x]).ext E2).wr W4 (Or.inl (List.mem_of_getElem? (i := 0) rfl))).ext E6).wr W8 (Or.inl (List.mem_of_getElem? (i := 0) rfl))), ((((E.ext E2).wr W4).ext E6).wr W8), t2, kb2, (Nat.lt_of_lt_of_le Va2.lt (Nat.le_trans (Nat.le_trans (Keep.of_wr W4).1 E6.1) (Keep.of_wr W8).1)), ((F4.ext E6).other W8 (Or.inr (slot_ne (Or.inr (hw _ (List.mem_of_getElem? (i := 4) rfl))) (Or.inr (hw _ (List.mem_of_getElem? (i := 5) rfl))) (by decide) (t := (.array .byte)) (by decide) (t' := .byte) (by decide)))), F8, (((Va2.other W4 (Ne.symm (ns2 _ (sf2 _ E.lt (hSf _ (List.mem_of_getElem? (i := 0) rfl)))).2)).ext E6).other W8 (Ne.symm (ns2 _ (sf2 _ E.lt (hSf _ (List.mem_of_getElem? (i := 0) rfl)))).2))⟩ (by decide) (by decide)
theorem own_ef2 (m : MethodId) (x0 : Addr) (x1 : Addr) : entryFrame m #[(.ref x0), (.ref x1)] 2 = mkF m 0 #[.val (.ref x0), .val (.ref x1)] [] := by first | (simp [entryFrame, mkF, argsToLocals, Value.category, maxLocals]; done) | rfl
abbrev own_Q_sie1 (Z : State) (x b : Addr) (kC : ClassId) (d : Value) (n0 : Nat) (h0 : Heap) : Option Value → Heap → List Loc → Prop := fun v h L => v = none ∧ Fr n0 L ∧ Keep h0 h [x] ∧ Exa Z h x "java/lang/String" ∧ ∃ t kb, t < h.size ∧ Fld Z h x "java/lang/String" "value" "[B" (.ref t) ∧ Fld Z h x "java/lang/String" "coder" "B" (.int (0 : Int32)) ∧ Arv Z h t kb .byte (0 : Int32) [] (.int (0 : Int32))
theorem own_d2_0 : decode jdk_42_method_3_code 0 = .ok (.aload_n 0, 1) := by decide +kernel
theorem own_d2_1 : decode jdk_42_method_3_code 1 = .ok (.aload_n 1, 1) := by decide +kernel
theorem own_d2_2 : decode jdk_42_method_3_code 2 = .ok (.iconst 0, 1) := by decide +kernel
theorem own_d2_3 : decode jdk_42_method_3_code 3 = .ok (.aload_n 1, 1) := by decide +kernel
theorem own_d2_4 : decode jdk_42_method_3_code 4 = .ok (.arraylength, 1) := by decide +kernel
theorem own_d2_5 : decode jdk_42_method_3_code 5 = .ok (.aconst_null, 1) := by decide +kernel
theorem own_d2_6 : decode jdk_42_method_3_code 6 = .ok (.invokespecial 27, 3) := by decide +kernel
theorem own_pd2 : parseMethodDescriptor "([CIILjava/lang/Void;)V" = some ⟨[(.array .char), .int, .int, (.object "java/lang/Void")], none⟩ := by decide +kernel
theorem own_d2_9 : decode jdk_42_method_3_code 9 = .ok (.return_, 1) := by decide +kernel
set_option maxRecDepth 65536 in
set_option maxHeartbeats 40000000 in
theorem own_rm_sie1 (l : Launch) (Z : State) (a0 : Array Value) (hw : ∀ d ∈ tables_1, d.before a0 Z = true) (ws : List Jvm.Cond) (x b : Addr) (kC : ClassId) (d : Value) (n0 : Nat) (h0 : Heap) (Z0 : n0 ≤ h0.size) (X00 : Old Z n0 h0) (E : Exa Z h0 x "java/lang/String") (F : Fld Z h0 x "java/lang/String" "value" "[B" .null) (C : Fld Z h0 x "java/lang/String" "coder" "B" (.int (0 : Int32))) (gx : n0 ≤ x) (Vb : Arv Z h0 b kC .char (0 : Int32) [] d) :
    MetFree l (⟨"java/lang/String", "<init>", "([C)V"⟩ : MethodName) (head1 (Jvm.Cond.code (⟨"java/lang/String", "<init>", "([C)V"⟩ : MethodName) jdk_42_method_3_code 2 none :: ws) ({ frames := 2, cells := 4, slots := 8, locals := 29 } : Room)) (fun aa U => aa = #[(.ref x), (.ref b)] ∧ Z.Warmed39 U.vm ∧ U.heap = h0 ∧ CHv Z own_EL U.vm h0 ∧ ∀ y_ ∈ ([x] : List Addr), Safe Z own_EL U.vm h0 y_) (fun _ _ _ _ _ => True) (fun _ U o_ U' => ∃ v L, o_ = .returned v ∧ (own_Q_sie1 Z x b kC d n0 h0) v U'.heap L ∧ CHr Z own_EL U.vm U.heap U'.vm U'.heap ∧ ReturnedEndW U o_ U' L ({ frames := 2, cells := 4, slots := 8, locals := 29 } : Room).cells ({ frames := 2, cells := 4, slots := 8, locals := 29 } : Room).slots) := by
  refine MetFree.of_bodySF (plainFor_of_name own_pn1) hisR ?_
  intro p e s m args below meth c s₁ Bd hml0 hP hK
  obtain ⟨rfl, hZ, hh, hH, hSf⟩ := hP
  have hx := Bd.exec
  have hby := Bd.bytes
  have hml : c.maxLocals = 2 := hml0
  have hlk : meth.locks = false := BodyLoose.notSynchronized Bd
  have hown : s.vm.findClass "java/lang/String" = some m.cls := findClass_of_methodNamed Bd.named
  have hnm := (name_of_methodNamed Bd.named Bd.method).1
  have X0 : Stand p l e ({ frames := 2, cells := 4, slots := 8, locals := 29 } : Room) (s.setVm s.vm) m #[(.ref x), (.ref b)] below meth c s₁ [] 0 0 := Stand.of_body Bd
  have e0 : s₁.heap = h0 := by rw [← hh, Bd.state]; rfl
  have hEL : EW Z a0 own_EL := own_ew hw
  have hSA : ∀ a ∈ Bundle.stringAtoms, a.before a0 Z = true := own_wS hw
  have W0 : own_W s Z own_EL "java/lang/String" m.cls h0 s.vm h0 := own_W.start hZ hown hH
  rw [own_ef2 m x b]
  show own_GoW p e below s Z own_EL ({ frames := 2, cells := 4, slots := 8, locals := 29 } : Room).cells ({ frames := 2, cells := 4, slots := 8, locals := 29 } : Room).slots (own_Q_sie1 Z x b kC d n0 h0) s₁ (mkF m 0 #[.val (.ref x), .val (.ref b)] [])
  have N0 := Fr.nil n0
  refine own_stW (g' := (mkF m 4 #[.val (.ref x), .val (.ref b)] [(.ref b), (.int (0 : Int32)), (.ref b), (.ref x)])) (fun _ q => XS.aloadN X0.here hx rfl (hb hby own_d2_0) rfl rfl (XS.aloadN X0.here hx rfl (hb hby own_d2_1) rfl rfl (XS.iconst X0.here hx rfl (hb hby own_d2_2) (XS.aloadN X0.here hx rfl (hb hby own_d2_3) rfl rfl (q))))) ?_
  refine own_stW (g' := (mkF m 5 #[.val (.ref x), .val (.ref b)] [(.int (0 : Int32)), (.int (0 : Int32)), (.ref b), (.ref x)])) (own_alen X0 hx W0.2.1 e0 Vb (hb hby own_d2_4)) ?_
  refine own_stW (g' := (mkF m 6 #[.val (.ref x), .val (.ref b)] [.null, (.int (0 : Int32)), (.int (0 : Int32)), (.ref b), (.ref x)])) (fun _ q => XS.aconstNull X0.here hx rfl (hb hby own_d2_5) (q)) ?_
  have K1 : own_BkW l ({ frames := 2, cells := 4, slots := 8, locals := 29 } : Room) p e below s #[(.ref x), (.ref b)] (⟨"java/lang/String", "<init>", "([CIILjava/lang/Void;)V"⟩ : MethodName) 0 Z own_EL s.vm h0 #[(.ref x), (.ref b), (.int (0 : Int32)), (.int (0 : Int32)), .null] 4 8 (own_Q_sie2 Z x b n0 h0) := own_backW (R := ({ frames := 2, cells := 4, slots := 8, locals := 29 } : Room)) (W := 0) (Qc := (own_Q_sie2 Z x b n0 h0)) (rm := ({ frames := 1, cells := 4, slots := 8, locals := 12 } : Room)) (xs := [x]) (own_rm_sie2 l Z a0 hw [] x b n0 h0 Z0 X00 E F C gx) W0 (hw _ (List.mem_of_getElem? (i := 58) rfl)) (hw _ (List.mem_of_getElem? (i := 1) rfl)) (by decide) (by decide) hEL (allS ⟨E.lt, (hSf _ (List.mem_of_getElem? (i := 0) rfl))⟩ all0)
  obtain ⟨_, L2, T2, X2, ⟨rfl, N2q, K2, E2, t2, kb2, u2, F2, Cd2, A2⟩, w2, C2, st2⟩ := own_cIW X0 hx W0 rfl (hw _ (List.mem_of_getElem? (i := 55) rfl)) (hw _ (List.mem_of_getElem? (i := 56) rfl)) (hw _ (List.mem_of_getElem? (i := 58) rfl)) (by decide) e0 (h := h0) (b := x) (argsL := [(.ref b), (.int (0 : Int32)), (.int (0 : Int32)), .null]) (rest := []) K1 (pc := 6) (Ls := #[.val (.ref x), .val (.ref b)]) (by rw [hml]; rfl) (lenOf own_pd2 rfl) rfl (Nat.le_of_eq rfl) (hb hby own_d2_6) (by decide) (by decide)
  have N2 := Fr.app N0 N2q
  refine own_stW (g' := (mkF m 9 #[.val (.ref x), .val (.ref b)] [])) st2 ?_
  exact own_goWV X2 hh w2 hEL rfl hlk hx Bd.returns (hb hby own_d2_9) ⟨rfl, N2, ((Keep.refl h0 [x]).trans K2 (allS (Or.inl (List.mem_of_getElem? (i := 0) rfl)) all0)), E2, t2, kb2, u2, F2, Cd2, A2⟩ (by decide) (by decide)
def own_bs (n d0 d1 d2 d3 d4 d5 d6 : Int32) : List Int32 := if n = 0 then [] else if n = 1 then [d0] else if n = 2 then [d0, d1] else if n = 3 then [d0, d1, d2] else if n = 4 then [d0, d1, d2, d3] else if n = 5 then [d0, d1, d2, d3, d4] else if n = 6 then [d0, d1, d2, d3, d4, d5] else [d0, d1, d2, d3, d4, d5, d6]
theorem own_ef3 (m : MethodId) (x0 : Addr) (x1 : Int32) (x2 : Int32) (x3 : Int32) (x4 : Int32) (x5 : Int32) : entryFrame m #[(.ref x0), (.int x1), (.int x2), (.int x3), (.int x4), (.int x5)] 13 = mkF m 0 #[.val (.ref x0), .val (.int x1), .val (.int x2), .val (.int x3), .val (.int x4), .val (.int x5), .unset, .unset, .unset, .unset, .unset, .unset, .unset] [] := by first | (simp [entryFrame, mkF, argsToLocals, Value.category, maxLocals]; done) | rfl
abbrev own_Q_build (Z : State) (x t : Addr) (kb : ClassId) (cs : List Int32) (N2 : Int32) (vs : List Value) (n pos mu rep fl z d0 d1 d2 d3 d4 d5 d6 : Int32) (fm : Value) (n0 : Nat) (h0 : Heap) : Option Value → Heap → List Loc → Prop := fun v h L => Fr n0 L ∧ Keep h0 h [] ∧ ∃ x' t' kb' N' vs', v = some (.ref x') ∧ t' < h.size ∧ Exa Z h x' "java/lang/String" ∧ Fld Z h x' "java/lang/String" "value" "[B" (.ref t') ∧ Fld Z h x' "java/lang/String" "coder" "B" (.int (0 : Int32)) ∧ Arv Z h t' kb' .byte N' vs' (.int (0 : Int32)) ∧ StrChars.Road.CodA (own_bs n d0 d1 d2 d3 d4 d5 d6) (0 : Int32) N' vs'
theorem own_d3_0 : decode method_3_code 0 = .ok (.aload_n 0, 1) := by decide +kernel
theorem own_d3_1 : decode method_3_code 1 = .ok (.iconst 0, 1) := by decide +kernel
theorem own_d3_2 : decode method_3_code 2 = .ok (.iload_n 2, 1) := by decide +kernel
theorem own_d3_3 : decode method_3_code 3 = .ok (.iload_n 3, 1) := by decide +kernel
theorem own_d3_4 : decode method_3_code 4 = .ok (.iload 4, 2) := by decide +kernel
theorem own_d3_6 : decode method_3_code 6 = .ok (.iload 5, 2) := by decide +kernel
theorem own_d3_8 : decode method_3_code 8 = .ok (.invokestatic 17, 3) := by decide +kernel
theorem own_pd3 : parseMethodDescriptor "(Ljava/lang/String;IIZCC)C" = some ⟨[(.object "java/lang/String"), .int, .int, .boolean, .char, .char], some .char⟩ := by decide +kernel
theorem own_d3_11 : decode method_3_code 11 = .ok (.istore 6, 2) := by decide +kernel
theorem own_d3_13 : decode method_3_code 13 = .ok (.aload_n 0, 1) := by decide +kernel
theorem own_d3_14 : decode method_3_code 14 = .ok (.iconst 1, 1) := by decide +kernel
theorem own_d3_15 : decode method_3_code 15 = .ok (.iload_n 2, 1) := by decide +kernel
theorem own_d3_16 : decode method_3_code 16 = .ok (.iload_n 3, 1) := by decide +kernel
theorem own_d3_17 : decode method_3_code 17 = .ok (.iload 4, 2) := by decide +kernel
theorem own_d3_19 : decode method_3_code 19 = .ok (.iload 5, 2) := by decide +kernel
theorem own_d3_21 : decode method_3_code 21 = .ok (.invokestatic 17, 3) := by decide +kernel
theorem own_d3_24 : decode method_3_code 24 = .ok (.istore 7, 2) := by decide +kernel
theorem own_d3_26 : decode method_3_code 26 = .ok (.aload_n 0, 1) := by decide +kernel
theorem own_d3_27 : decode method_3_code 27 = .ok (.iconst 2, 1) := by decide +kernel
theorem own_d3_28 : decode method_3_code 28 = .ok (.iload_n 2, 1) := by decide +kernel
theorem own_d3_29 : decode method_3_code 29 = .ok (.iload_n 3, 1) := by decide +kernel
theorem own_d3_30 : decode method_3_code 30 = .ok (.iload 4, 2) := by decide +kernel
theorem own_d3_32 : decode method_3_code 32 = .ok (.iload 5, 2) := by decide +kernel
theorem own_d3_34 : decode method_3_code 34 = .ok (.invokestatic 17, 3) := by decide +kernel
theorem own_d3_37 : decode method_3_code 37 = .ok (.istore 8, 2) := by decide +kernel
theorem own_d3_39 : decode method_3_code 39 = .ok (.aload_n 0, 1) := by decide +kernel
theorem own_d3_40 : decode method_3_code 40 = .ok (.iconst 3, 1) := by decide +kernel
theorem own_d3_41 : decode method_3_code 41 = .ok (.iload_n 2, 1) := by decide +kernel
theorem own_d3_42 : decode method_3_code 42 = .ok (.iload_n 3, 1) := by decide +kernel
theorem own_d3_43 : decode method_3_code 43 = .ok (.iload 4, 2) := by decide +kernel
theorem own_d3_45 : decode method_3_code 45 = .ok (.iload 5, 2) := by decide +kernel
theorem own_d3_47 : decode method_3_code 47 = .ok (.invokestatic 17, 3) := by decide +kernel
theorem own_d3_50 : decode method_3_code 50 = .ok (.istore 9, 2) := by decide +kernel
theorem own_d3_52 : decode method_3_code 52 = .ok (.aload_n 0, 1) := by decide +kernel
theorem own_d3_53 : decode method_3_code 53 = .ok (.iconst 4, 1) := by decide +kernel
theorem own_d3_54 : decode method_3_code 54 = .ok (.iload_n 2, 1) := by decide +kernel
theorem own_d3_55 : decode method_3_code 55 = .ok (.iload_n 3, 1) := by decide +kernel
theorem own_d3_56 : decode method_3_code 56 = .ok (.iload 4, 2) := by decide +kernel
theorem own_d3_58 : decode method_3_code 58 = .ok (.iload 5, 2) := by decide +kernel
theorem own_d3_60 : decode method_3_code 60 = .ok (.invokestatic 17, 3) := by decide +kernel
theorem own_d3_63 : decode method_3_code 63 = .ok (.istore 10, 2) := by decide +kernel
theorem own_d3_65 : decode method_3_code 65 = .ok (.aload_n 0, 1) := by decide +kernel
theorem own_d3_66 : decode method_3_code 66 = .ok (.iconst 5, 1) := by decide +kernel
theorem own_d3_67 : decode method_3_code 67 = .ok (.iload_n 2, 1) := by decide +kernel
theorem own_d3_68 : decode method_3_code 68 = .ok (.iload_n 3, 1) := by decide +kernel
theorem own_d3_69 : decode method_3_code 69 = .ok (.iload 4, 2) := by decide +kernel
theorem own_d3_71 : decode method_3_code 71 = .ok (.iload 5, 2) := by decide +kernel
theorem own_d3_73 : decode method_3_code 73 = .ok (.invokestatic 17, 3) := by decide +kernel
theorem own_d3_76 : decode method_3_code 76 = .ok (.istore 11, 2) := by decide +kernel
theorem own_d3_78 : decode method_3_code 78 = .ok (.aload_n 0, 1) := by decide +kernel
theorem own_d3_79 : decode method_3_code 79 = .ok (.bipush 6, 2) := by decide +kernel
theorem own_d3_81 : decode method_3_code 81 = .ok (.iload_n 2, 1) := by decide +kernel
theorem own_d3_82 : decode method_3_code 82 = .ok (.iload_n 3, 1) := by decide +kernel
theorem own_d3_83 : decode method_3_code 83 = .ok (.iload 4, 2) := by decide +kernel
theorem own_d3_85 : decode method_3_code 85 = .ok (.iload 5, 2) := by decide +kernel
theorem own_d3_87 : decode method_3_code 87 = .ok (.invokestatic 17, 3) := by decide +kernel
theorem own_d3_90 : decode method_3_code 90 = .ok (.istore 12, 2) := by decide +kernel
theorem own_d3_92 : decode method_3_code 92 = .ok (.iload_n 1, 1) := by decide +kernel
theorem own_d3_93 : decode method_3_code 93 = .ok (.ifCond .ne 14, 3) := by decide +kernel
theorem own_d3_96 : decode method_3_code 96 = .ok (.new 8, 3) := by decide +kernel
theorem own_d3_99 : decode method_3_code 99 = .ok (.dup, 1) := by decide +kernel
theorem own_d3_100 : decode method_3_code 100 = .ok (.iconst 0, 1) := by decide +kernel
theorem own_d3_101 : decode method_3_code 101 = .ok (.newarray .char, 2) := by decide +kernel
theorem own_d3_103 : decode method_3_code 103 = .ok (.invokespecial 23, 3) := by decide +kernel
theorem own_pd4 : parseMethodDescriptor "([C)V" = some ⟨[(.array .char)], none⟩ := by decide +kernel
theorem own_d3_106 : decode method_3_code 106 = .ok (.areturn, 1) := by decide +kernel
theorem own_d3_107 : decode method_3_code 107 = .ok (.iload_n 1, 1) := by decide +kernel
theorem own_d3_108 : decode method_3_code 108 = .ok (.iconst 1, 1) := by decide +kernel
theorem own_d3_109 : decode method_3_code 109 = .ok (.if_icmp .ne 19, 3) := by decide +kernel
theorem own_d3_112 : decode method_3_code 112 = .ok (.new 8, 3) := by decide +kernel
theorem own_d3_115 : decode method_3_code 115 = .ok (.dup, 1) := by decide +kernel
theorem own_d3_116 : decode method_3_code 116 = .ok (.iconst 1, 1) := by decide +kernel
theorem own_d3_117 : decode method_3_code 117 = .ok (.newarray .char, 2) := by decide +kernel
theorem own_d3_119 : decode method_3_code 119 = .ok (.dup, 1) := by decide +kernel
theorem own_d3_120 : decode method_3_code 120 = .ok (.iconst 0, 1) := by decide +kernel
theorem own_d3_121 : decode method_3_code 121 = .ok (.iload 6, 2) := by decide +kernel
theorem own_d3_123 : decode method_3_code 123 = .ok (.castore, 1) := by decide +kernel
theorem own_d3_124 : decode method_3_code 124 = .ok (.invokespecial 23, 3) := by decide +kernel
theorem own_d3_127 : decode method_3_code 127 = .ok (.areturn, 1) := by decide +kernel
theorem own_d3_128 : decode method_3_code 128 = .ok (.iload_n 1, 1) := by decide +kernel
theorem own_d3_129 : decode method_3_code 129 = .ok (.iconst 2, 1) := by decide +kernel
theorem own_d3_130 : decode method_3_code 130 = .ok (.if_icmp .ne 24, 3) := by decide +kernel
theorem own_d3_133 : decode method_3_code 133 = .ok (.new 8, 3) := by decide +kernel
theorem own_d3_136 : decode method_3_code 136 = .ok (.dup, 1) := by decide +kernel
theorem own_d3_137 : decode method_3_code 137 = .ok (.iconst 2, 1) := by decide +kernel
theorem own_d3_138 : decode method_3_code 138 = .ok (.newarray .char, 2) := by decide +kernel
theorem own_d3_140 : decode method_3_code 140 = .ok (.dup, 1) := by decide +kernel
theorem own_d3_141 : decode method_3_code 141 = .ok (.iconst 0, 1) := by decide +kernel
theorem own_d3_142 : decode method_3_code 142 = .ok (.iload 6, 2) := by decide +kernel
theorem own_d3_144 : decode method_3_code 144 = .ok (.castore, 1) := by decide +kernel
theorem own_d3_145 : decode method_3_code 145 = .ok (.dup, 1) := by decide +kernel
theorem own_d3_146 : decode method_3_code 146 = .ok (.iconst 1, 1) := by decide +kernel
theorem own_d3_147 : decode method_3_code 147 = .ok (.iload 7, 2) := by decide +kernel
theorem own_d3_149 : decode method_3_code 149 = .ok (.castore, 1) := by decide +kernel
theorem own_d3_150 : decode method_3_code 150 = .ok (.invokespecial 23, 3) := by decide +kernel
theorem own_d3_153 : decode method_3_code 153 = .ok (.areturn, 1) := by decide +kernel
theorem own_d3_154 : decode method_3_code 154 = .ok (.iload_n 1, 1) := by decide +kernel
theorem own_d3_155 : decode method_3_code 155 = .ok (.iconst 3, 1) := by decide +kernel
theorem own_d3_156 : decode method_3_code 156 = .ok (.if_icmp .ne 29, 3) := by decide +kernel
theorem own_d3_159 : decode method_3_code 159 = .ok (.new 8, 3) := by decide +kernel
theorem own_d3_162 : decode method_3_code 162 = .ok (.dup, 1) := by decide +kernel
theorem own_d3_163 : decode method_3_code 163 = .ok (.iconst 3, 1) := by decide +kernel
theorem own_d3_164 : decode method_3_code 164 = .ok (.newarray .char, 2) := by decide +kernel
theorem own_d3_166 : decode method_3_code 166 = .ok (.dup, 1) := by decide +kernel
theorem own_d3_167 : decode method_3_code 167 = .ok (.iconst 0, 1) := by decide +kernel
theorem own_d3_168 : decode method_3_code 168 = .ok (.iload 6, 2) := by decide +kernel
theorem own_d3_170 : decode method_3_code 170 = .ok (.castore, 1) := by decide +kernel
theorem own_d3_171 : decode method_3_code 171 = .ok (.dup, 1) := by decide +kernel
theorem own_d3_172 : decode method_3_code 172 = .ok (.iconst 1, 1) := by decide +kernel
theorem own_d3_173 : decode method_3_code 173 = .ok (.iload 7, 2) := by decide +kernel
theorem own_d3_175 : decode method_3_code 175 = .ok (.castore, 1) := by decide +kernel
theorem own_d3_176 : decode method_3_code 176 = .ok (.dup, 1) := by decide +kernel
theorem own_d3_177 : decode method_3_code 177 = .ok (.iconst 2, 1) := by decide +kernel
theorem own_d3_178 : decode method_3_code 178 = .ok (.iload 8, 2) := by decide +kernel
theorem own_d3_180 : decode method_3_code 180 = .ok (.castore, 1) := by decide +kernel
theorem own_d3_181 : decode method_3_code 181 = .ok (.invokespecial 23, 3) := by decide +kernel
theorem own_d3_184 : decode method_3_code 184 = .ok (.areturn, 1) := by decide +kernel
theorem own_d3_185 : decode method_3_code 185 = .ok (.iload_n 1, 1) := by decide +kernel
theorem own_d3_186 : decode method_3_code 186 = .ok (.iconst 4, 1) := by decide +kernel
theorem own_d3_187 : decode method_3_code 187 = .ok (.if_icmp .ne 34, 3) := by decide +kernel
theorem own_d3_190 : decode method_3_code 190 = .ok (.new 8, 3) := by decide +kernel
theorem own_d3_193 : decode method_3_code 193 = .ok (.dup, 1) := by decide +kernel
theorem own_d3_194 : decode method_3_code 194 = .ok (.iconst 4, 1) := by decide +kernel
theorem own_d3_195 : decode method_3_code 195 = .ok (.newarray .char, 2) := by decide +kernel
theorem own_d3_197 : decode method_3_code 197 = .ok (.dup, 1) := by decide +kernel
theorem own_d3_198 : decode method_3_code 198 = .ok (.iconst 0, 1) := by decide +kernel
theorem own_d3_199 : decode method_3_code 199 = .ok (.iload 6, 2) := by decide +kernel
theorem own_d3_201 : decode method_3_code 201 = .ok (.castore, 1) := by decide +kernel
theorem own_d3_202 : decode method_3_code 202 = .ok (.dup, 1) := by decide +kernel
theorem own_d3_203 : decode method_3_code 203 = .ok (.iconst 1, 1) := by decide +kernel
theorem own_d3_204 : decode method_3_code 204 = .ok (.iload 7, 2) := by decide +kernel
theorem own_d3_206 : decode method_3_code 206 = .ok (.castore, 1) := by decide +kernel
theorem own_d3_207 : decode method_3_code 207 = .ok (.dup, 1) := by decide +kernel
theorem own_d3_208 : decode method_3_code 208 = .ok (.iconst 2, 1) := by decide +kernel
theorem own_d3_209 : decode method_3_code 209 = .ok (.iload 8, 2) := by decide +kernel
theorem own_d3_211 : decode method_3_code 211 = .ok (.castore, 1) := by decide +kernel
theorem own_d3_212 : decode method_3_code 212 = .ok (.dup, 1) := by decide +kernel
theorem own_d3_213 : decode method_3_code 213 = .ok (.iconst 3, 1) := by decide +kernel
theorem own_d3_214 : decode method_3_code 214 = .ok (.iload 9, 2) := by decide +kernel
theorem own_d3_216 : decode method_3_code 216 = .ok (.castore, 1) := by decide +kernel
theorem own_d3_217 : decode method_3_code 217 = .ok (.invokespecial 23, 3) := by decide +kernel
theorem own_d3_220 : decode method_3_code 220 = .ok (.areturn, 1) := by decide +kernel
theorem own_d3_221 : decode method_3_code 221 = .ok (.iload_n 1, 1) := by decide +kernel
theorem own_d3_222 : decode method_3_code 222 = .ok (.iconst 5, 1) := by decide +kernel
theorem own_d3_223 : decode method_3_code 223 = .ok (.if_icmp .ne 39, 3) := by decide +kernel
theorem own_d3_226 : decode method_3_code 226 = .ok (.new 8, 3) := by decide +kernel
theorem own_d3_229 : decode method_3_code 229 = .ok (.dup, 1) := by decide +kernel
theorem own_d3_230 : decode method_3_code 230 = .ok (.iconst 5, 1) := by decide +kernel
theorem own_d3_231 : decode method_3_code 231 = .ok (.newarray .char, 2) := by decide +kernel
theorem own_d3_233 : decode method_3_code 233 = .ok (.dup, 1) := by decide +kernel
theorem own_d3_234 : decode method_3_code 234 = .ok (.iconst 0, 1) := by decide +kernel
theorem own_d3_235 : decode method_3_code 235 = .ok (.iload 6, 2) := by decide +kernel
theorem own_d3_237 : decode method_3_code 237 = .ok (.castore, 1) := by decide +kernel
theorem own_d3_238 : decode method_3_code 238 = .ok (.dup, 1) := by decide +kernel
theorem own_d3_239 : decode method_3_code 239 = .ok (.iconst 1, 1) := by decide +kernel
theorem own_d3_240 : decode method_3_code 240 = .ok (.iload 7, 2) := by decide +kernel
theorem own_d3_242 : decode method_3_code 242 = .ok (.castore, 1) := by decide +kernel
theorem own_d3_243 : decode method_3_code 243 = .ok (.dup, 1) := by decide +kernel
theorem own_d3_244 : decode method_3_code 244 = .ok (.iconst 2, 1) := by decide +kernel
theorem own_d3_245 : decode method_3_code 245 = .ok (.iload 8, 2) := by decide +kernel
theorem own_d3_247 : decode method_3_code 247 = .ok (.castore, 1) := by decide +kernel
theorem own_d3_248 : decode method_3_code 248 = .ok (.dup, 1) := by decide +kernel
theorem own_d3_249 : decode method_3_code 249 = .ok (.iconst 3, 1) := by decide +kernel
theorem own_d3_250 : decode method_3_code 250 = .ok (.iload 9, 2) := by decide +kernel
theorem own_d3_252 : decode method_3_code 252 = .ok (.castore, 1) := by decide +kernel
theorem own_d3_253 : decode method_3_code 253 = .ok (.dup, 1) := by decide +kernel
theorem own_d3_254 : decode method_3_code 254 = .ok (.iconst 4, 1) := by decide +kernel
theorem own_d3_255 : decode method_3_code 255 = .ok (.iload 10, 2) := by decide +kernel
theorem own_d3_257 : decode method_3_code 257 = .ok (.castore, 1) := by decide +kernel
theorem own_d3_258 : decode method_3_code 258 = .ok (.invokespecial 23, 3) := by decide +kernel
theorem own_d3_261 : decode method_3_code 261 = .ok (.areturn, 1) := by decide +kernel
theorem own_d3_262 : decode method_3_code 262 = .ok (.iload_n 1, 1) := by decide +kernel
theorem own_d3_263 : decode method_3_code 263 = .ok (.bipush 6, 2) := by decide +kernel
theorem own_d3_265 : decode method_3_code 265 = .ok (.if_icmp .ne 45, 3) := by decide +kernel
theorem own_d3_268 : decode method_3_code 268 = .ok (.new 8, 3) := by decide +kernel
theorem own_d3_271 : decode method_3_code 271 = .ok (.dup, 1) := by decide +kernel
theorem own_d3_272 : decode method_3_code 272 = .ok (.bipush 6, 2) := by decide +kernel
theorem own_d3_274 : decode method_3_code 274 = .ok (.newarray .char, 2) := by decide +kernel
theorem own_d3_276 : decode method_3_code 276 = .ok (.dup, 1) := by decide +kernel
theorem own_d3_277 : decode method_3_code 277 = .ok (.iconst 0, 1) := by decide +kernel
theorem own_d3_278 : decode method_3_code 278 = .ok (.iload 6, 2) := by decide +kernel
theorem own_d3_280 : decode method_3_code 280 = .ok (.castore, 1) := by decide +kernel
theorem own_d3_281 : decode method_3_code 281 = .ok (.dup, 1) := by decide +kernel
theorem own_d3_282 : decode method_3_code 282 = .ok (.iconst 1, 1) := by decide +kernel
theorem own_d3_283 : decode method_3_code 283 = .ok (.iload 7, 2) := by decide +kernel
theorem own_d3_285 : decode method_3_code 285 = .ok (.castore, 1) := by decide +kernel
theorem own_d3_286 : decode method_3_code 286 = .ok (.dup, 1) := by decide +kernel
theorem own_d3_287 : decode method_3_code 287 = .ok (.iconst 2, 1) := by decide +kernel
theorem own_d3_288 : decode method_3_code 288 = .ok (.iload 8, 2) := by decide +kernel
theorem own_d3_290 : decode method_3_code 290 = .ok (.castore, 1) := by decide +kernel
theorem own_d3_291 : decode method_3_code 291 = .ok (.dup, 1) := by decide +kernel
theorem own_d3_292 : decode method_3_code 292 = .ok (.iconst 3, 1) := by decide +kernel
theorem own_d3_293 : decode method_3_code 293 = .ok (.iload 9, 2) := by decide +kernel
theorem own_d3_295 : decode method_3_code 295 = .ok (.castore, 1) := by decide +kernel
theorem own_d3_296 : decode method_3_code 296 = .ok (.dup, 1) := by decide +kernel
theorem own_d3_297 : decode method_3_code 297 = .ok (.iconst 4, 1) := by decide +kernel
theorem own_d3_298 : decode method_3_code 298 = .ok (.iload 10, 2) := by decide +kernel
theorem own_d3_300 : decode method_3_code 300 = .ok (.castore, 1) := by decide +kernel
theorem own_d3_301 : decode method_3_code 301 = .ok (.dup, 1) := by decide +kernel
theorem own_d3_302 : decode method_3_code 302 = .ok (.iconst 5, 1) := by decide +kernel
theorem own_d3_303 : decode method_3_code 303 = .ok (.iload 11, 2) := by decide +kernel
theorem own_d3_305 : decode method_3_code 305 = .ok (.castore, 1) := by decide +kernel
theorem own_d3_306 : decode method_3_code 306 = .ok (.invokespecial 23, 3) := by decide +kernel
theorem own_d3_309 : decode method_3_code 309 = .ok (.areturn, 1) := by decide +kernel
theorem own_d3_310 : decode method_3_code 310 = .ok (.new 8, 3) := by decide +kernel
theorem own_d3_313 : decode method_3_code 313 = .ok (.dup, 1) := by decide +kernel
theorem own_d3_314 : decode method_3_code 314 = .ok (.bipush 7, 2) := by decide +kernel
theorem own_d3_316 : decode method_3_code 316 = .ok (.newarray .char, 2) := by decide +kernel
theorem own_d3_318 : decode method_3_code 318 = .ok (.dup, 1) := by decide +kernel
theorem own_d3_319 : decode method_3_code 319 = .ok (.iconst 0, 1) := by decide +kernel
theorem own_d3_320 : decode method_3_code 320 = .ok (.iload 6, 2) := by decide +kernel
theorem own_d3_322 : decode method_3_code 322 = .ok (.castore, 1) := by decide +kernel
theorem own_d3_323 : decode method_3_code 323 = .ok (.dup, 1) := by decide +kernel
theorem own_d3_324 : decode method_3_code 324 = .ok (.iconst 1, 1) := by decide +kernel
theorem own_d3_325 : decode method_3_code 325 = .ok (.iload 7, 2) := by decide +kernel
theorem own_d3_327 : decode method_3_code 327 = .ok (.castore, 1) := by decide +kernel
theorem own_d3_328 : decode method_3_code 328 = .ok (.dup, 1) := by decide +kernel
theorem own_d3_329 : decode method_3_code 329 = .ok (.iconst 2, 1) := by decide +kernel
theorem own_d3_330 : decode method_3_code 330 = .ok (.iload 8, 2) := by decide +kernel
theorem own_d3_332 : decode method_3_code 332 = .ok (.castore, 1) := by decide +kernel
theorem own_d3_333 : decode method_3_code 333 = .ok (.dup, 1) := by decide +kernel
theorem own_d3_334 : decode method_3_code 334 = .ok (.iconst 3, 1) := by decide +kernel
theorem own_d3_335 : decode method_3_code 335 = .ok (.iload 9, 2) := by decide +kernel
theorem own_d3_337 : decode method_3_code 337 = .ok (.castore, 1) := by decide +kernel
theorem own_d3_338 : decode method_3_code 338 = .ok (.dup, 1) := by decide +kernel
theorem own_d3_339 : decode method_3_code 339 = .ok (.iconst 4, 1) := by decide +kernel
theorem own_d3_340 : decode method_3_code 340 = .ok (.iload 10, 2) := by decide +kernel
theorem own_d3_342 : decode method_3_code 342 = .ok (.castore, 1) := by decide +kernel
theorem own_d3_343 : decode method_3_code 343 = .ok (.dup, 1) := by decide +kernel
theorem own_d3_344 : decode method_3_code 344 = .ok (.iconst 5, 1) := by decide +kernel
theorem own_d3_345 : decode method_3_code 345 = .ok (.iload 11, 2) := by decide +kernel
theorem own_d3_347 : decode method_3_code 347 = .ok (.castore, 1) := by decide +kernel
theorem own_d3_348 : decode method_3_code 348 = .ok (.dup, 1) := by decide +kernel
theorem own_d3_349 : decode method_3_code 349 = .ok (.bipush 6, 2) := by decide +kernel
theorem own_d3_351 : decode method_3_code 351 = .ok (.iload 12, 2) := by decide +kernel
theorem own_d3_353 : decode method_3_code 353 = .ok (.castore, 1) := by decide +kernel
theorem own_d3_354 : decode method_3_code 354 = .ok (.invokespecial 23, 3) := by decide +kernel
theorem own_d3_357 : decode method_3_code 357 = .ok (.areturn, 1) := by decide +kernel
set_option maxRecDepth 65536 in
set_option maxHeartbeats 40000000 in
theorem own_rm_build (l : Launch) (Z : State) (a0 : Array Value) (hw : ∀ d ∈ tables_1, d.before a0 Z = true) (ws : List Jvm.Cond) (x t : Addr) (kb : ClassId) (cs : List Int32) (N2 : Int32) (vs : List Value) (n pos mu rep fl z d0 d1 d2 d3 d4 d5 d6 : Int32) (fm : Value) (n0 : Nat) (h0 : Heap) (E : Exa Z h0 x "java/lang/String") (F : Fld Z h0 x "java/lang/String" "value" "[B" (.ref t)) (C : Fld Z h0 x "java/lang/String" "coder" "B" (.int (0 : Int32))) (K : Arv Z h0 t kb .byte N2 vs (.int (0 : Int32))) (hc : StrChars.Road.CodA cs (0 : Int32) N2 vs) (hb_ : ∀ c ∈ cs, ¬ c < 0 ∧ ¬ (65535 : Int32) < c) (l2 : cs.length ≤ 4000) (O : Sta Z Z.heap "java/lang/String" "COMPACT_STRINGS" "Z" (.int z)) (hz : ¬ z = (0 : Int32)) (Om : Sta Z Z.heap "jdk/internal/util/Preconditions" "SIOOBE_FORMATTER" "Ljava/util/function/BiFunction;" fm) (rf : fm.isRef = true) (Z0 : n0 ≤ h0.size) (X00 : Old Z n0 h0) (hd0 : d0 = nar .char (own_f_at cs 0 (0 : Int32) pos mu rep fl)) (g0_ : ¬ d0 < 0 ∧ ¬ (255 : Int32) < d0) (hd1 : d1 = nar .char (own_f_at cs 1 (1 : Int32) pos mu rep fl)) (g1_ : ¬ d1 < 0 ∧ ¬ (255 : Int32) < d1) (hd2 : d2 = nar .char (own_f_at cs 2 (2 : Int32) pos mu rep fl)) (g2_ : ¬ d2 < 0 ∧ ¬ (255 : Int32) < d2) (hd3 : d3 = nar .char (own_f_at cs 3 (3 : Int32) pos mu rep fl)) (g3_ : ¬ d3 < 0 ∧ ¬ (255 : Int32) < d3) (hd4 : d4 = nar .char (own_f_at cs 4 (4 : Int32) pos mu rep fl)) (g4_ : ¬ d4 < 0 ∧ ¬ (255 : Int32) < d4) (hd5 : d5 = nar .char (own_f_at cs 5 (5 : Int32) pos mu rep fl)) (g5_ : ¬ d5 < 0 ∧ ¬ (255 : Int32) < d5) (hd6 : d6 = nar .char (own_f_at cs 6 (6 : Int32) pos mu rep fl)) (g6_ : ¬ d6 < 0 ∧ ¬ (255 : Int32) < d6) :
    MetFree l (⟨"org/proofstand/runner/VmModeNamedPinLaw", "build", "(Ljava/lang/String;IIZCC)Ljava/lang/String;"⟩ : MethodName) (head1 (Jvm.Cond.code (⟨"org/proofstand/runner/VmModeNamedPinLaw", "build", "(Ljava/lang/String;IIZCC)Ljava/lang/String;"⟩ : MethodName) method_3_code 13 (some (.object "java/lang/String")) :: ws) ({ frames := 5, cells := 6, slots := 18, locals := 70 } : Room)) (fun aa U => aa = #[(.ref x), (.int n), (.int pos), (.int mu), (.int rep), (.int fl)] ∧ Z.Warmed39 U.vm ∧ U.heap = h0 ∧ CHv Z own_EL U.vm h0 ∧ ∀ y_ ∈ ([] : List Addr), Safe Z own_EL U.vm h0 y_) (fun _ _ _ _ _ => True) (fun _ U o_ U' => ∃ v L, o_ = .returned v ∧ (own_Q_build Z x t kb cs N2 vs n pos mu rep fl z d0 d1 d2 d3 d4 d5 d6 fm n0 h0) v U'.heap L ∧ CHr Z own_EL U.vm U.heap U'.vm U'.heap ∧ ReturnedEndW U o_ U' L ({ frames := 5, cells := 6, slots := 18, locals := 70 } : Room).cells ({ frames := 5, cells := 6, slots := 18, locals := 70 } : Room).slots) := by
  refine MetFree.of_bodySF (plainFor_of_name own_pn0) hisR ?_
  intro p e s m args below meth c s₁ Bd hml0 hP hK
  obtain ⟨rfl, hZ, hh, hH, hSf⟩ := hP
  have hx := Bd.exec
  have hby := Bd.bytes
  have hml : c.maxLocals = 13 := hml0
  have hlk : meth.locks = false := BodyLoose.notSynchronized Bd
  have hown : s.vm.findClass "org/proofstand/runner/VmModeNamedPinLaw" = some m.cls := findClass_of_methodNamed Bd.named
  have hnm := (name_of_methodNamed Bd.named Bd.method).1
  have X0 : Stand p l e ({ frames := 5, cells := 6, slots := 18, locals := 70 } : Room) (s.setVm s.vm) m #[(.ref x), (.int n), (.int pos), (.int mu), (.int rep), (.int fl)] below meth c s₁ [] 0 0 := Stand.of_body Bd
  have e0 : s₁.heap = h0 := by rw [← hh, Bd.state]; rfl
  have hEL : EW Z a0 own_EL := own_ew hw
  have hSA : ∀ a ∈ Bundle.stringAtoms, a.before a0 Z = true := own_wS hw
  have W0 : own_W s Z own_EL "org/proofstand/runner/VmModeNamedPinLaw" m.cls h0 s.vm h0 := own_W.start hZ hown hH
  rw [own_ef3 m x n pos mu rep fl]
  show own_GoW p e below s Z own_EL ({ frames := 5, cells := 6, slots := 18, locals := 70 } : Room).cells ({ frames := 5, cells := 6, slots := 18, locals := 70 } : Room).slots (own_Q_build Z x t kb cs N2 vs n pos mu rep fl z d0 d1 d2 d3 d4 d5 d6 fm n0 h0) s₁ (mkF m 0 #[.val (.ref x), .val (.int n), .val (.int pos), .val (.int mu), .val (.int rep), .val (.int fl), .unset, .unset, .unset, .unset, .unset, .unset, .unset] [])
  have N0 := Fr.nil n0
  have hws := own_hws hw
  have hp : ∀ c ∈ ([d0, d1, d2, d3, d4, d5, d6] : List Int32), ¬ c < 0 ∧ ¬ (255 : Int32) < c := by
    intro c hc
    simp only [List.mem_cons, List.not_mem_nil, or_false] at hc
    rcases hc with h | h | h | h | h | h | h <;> rw [h] <;> assumption
  refine own_stW (g' := (mkF m 8 #[.val (.ref x), .val (.int n), .val (.int pos), .val (.int mu), .val (.int rep), .val (.int fl), .unset, .unset, .unset, .unset, .unset, .unset, .unset] [(.int fl), (.int rep), (.int mu), (.int pos), (.int (0 : Int32)), (.ref x)])) (fun _ q => XS.aloadN X0.here hx rfl (hb hby own_d3_0) rfl rfl (XS.iconst X0.here hx rfl (hb hby own_d3_1) (XS.iloadN X0.here hx rfl (hb hby own_d3_2) rfl (XS.iloadN X0.here hx rfl (hb hby own_d3_3) rfl (XS.iload X0.here hx rfl (hb hby own_d3_4) rfl (XS.iload X0.here hx rfl (hb hby own_d3_6) rfl (q))))))) ?_
  obtain ⟨r1, hr1⟩ : ∃ z : Int32, z = (own_f_at cs 0 (0 : Int32) pos mu rep fl) := ⟨_, rfl⟩
  have K1 : own_Bk l ({ frames := 5, cells := 6, slots := 18, locals := 70 } : Room) p e below (s.setVm s.vm) #[(.ref x), (.int n), (.int pos), (.int mu), (.int rep), (.int fl)] (⟨"org/proofstand/runner/VmModeNamedPinLaw", "at", "(Ljava/lang/String;IIZCC)C"⟩ : MethodName) 0 h0 #[(.ref x), (.int (0 : Int32)), (.int pos), (.int mu), (.int rep), (.int fl)] 0 0 (fun v h L => v = some (.int r1) ∧ L = [] ∧ h = h0) := backOf (s := (s.setVm s.vm)) (R := ({ frames := 5, cells := 6, slots := 18, locals := 70 } : Room)) (W := 0) (Q := (fun v h L => v = some (.int r1) ∧ L = [] ∧ h = h0)) (rm := ({ frames := 4, cells := 0, slots := 0, locals := 53 } : Room)) (own_rm_at l Z a0 hw [] x t kb cs N2 vs (0 : Int32) pos mu rep fl z fm 0 n0 r1 h0 E F C K hc hb_ l2 O hz Om rf X00 rfl (by decide) (by rw [hr1])) W0.2.1 (hw _ (List.mem_of_getElem? (i := 14) rfl)) (hw _ (List.mem_of_getElem? (i := 10) rfl)) (by decide) (by decide)
  obtain ⟨T2, X2, e2, st2⟩ := own_pure (own_cS X0 hx W0.2.1 W0.2.2.1 (hw _ (List.mem_of_getElem? (i := 12) rfl)) (hw _ (List.mem_of_getElem? (i := 13) rfl)) (hw _ (List.mem_of_getElem? (i := 10) rfl)) (hw _ (List.mem_of_getElem? (i := 14) rfl)) (by decide) e0 (h := h0) (argsL := [(.ref x), (.int (0 : Int32)), (.int pos), (.int mu), (.int rep), (.int fl)]) (rest := []) K1 (pc := 8) (Ls := #[.val (.ref x), .val (.int n), .val (.int pos), .val (.int mu), .val (.int rep), .val (.int fl), .unset, .unset, .unset, .unset, .unset, .unset, .unset]) (by rw [hml]; rfl) (lenOf own_pd3 rfl) rfl (Nat.le_of_eq rfl) (hb hby own_d3_8) (by decide) (by decide))
  refine own_stW (g' := (mkF m 11 #[.val (.ref x), .val (.int n), .val (.int pos), .val (.int mu), .val (.int rep), .val (.int fl), .unset, .unset, .unset, .unset, .unset, .unset, .unset] [(.int r1)])) st2 ?_
  refine own_stW (g' := (mkF m 21 #[.val (.ref x), .val (.int n), .val (.int pos), .val (.int mu), .val (.int rep), .val (.int fl), .val (.int r1), .unset, .unset, .unset, .unset, .unset, .unset] [(.int fl), (.int rep), (.int mu), (.int pos), (.int (1 : Int32)), (.ref x)])) (fun _ q => XS.istore X2.here hx rfl (hb hby own_d3_11) rfl (l' := #[.val (.ref x), .val (.int n), .val (.int pos), .val (.int mu), .val (.int rep), .val (.int fl), .val (.int r1), .unset, .unset, .unset, .unset, .unset, .unset]) rfl (XS.aloadN X2.here hx rfl (hb hby own_d3_13) rfl rfl (XS.iconst X2.here hx rfl (hb hby own_d3_14) (XS.iloadN X2.here hx rfl (hb hby own_d3_15) rfl (XS.iloadN X2.here hx rfl (hb hby own_d3_16) rfl (XS.iload X2.here hx rfl (hb hby own_d3_17) rfl (XS.iload X2.here hx rfl (hb hby own_d3_19) rfl (q)))))))) ?_
  obtain ⟨r3, hr3⟩ : ∃ z : Int32, z = (own_f_at cs 1 (1 : Int32) pos mu rep fl) := ⟨_, rfl⟩
  have K3 : own_Bk l ({ frames := 5, cells := 6, slots := 18, locals := 70 } : Room) p e below (s.setVm s.vm) #[(.ref x), (.int n), (.int pos), (.int mu), (.int rep), (.int fl)] (⟨"org/proofstand/runner/VmModeNamedPinLaw", "at", "(Ljava/lang/String;IIZCC)C"⟩ : MethodName) 0 h0 #[(.ref x), (.int (1 : Int32)), (.int pos), (.int mu), (.int rep), (.int fl)] 0 0 (fun v h L => v = some (.int r3) ∧ L = [] ∧ h = h0) := backOf (s := (s.setVm s.vm)) (R := ({ frames := 5, cells := 6, slots := 18, locals := 70 } : Room)) (W := 0) (Q := (fun v h L => v = some (.int r3) ∧ L = [] ∧ h = h0)) (rm := ({ frames := 4, cells := 0, slots := 0, locals := 53 } : Room)) (own_rm_at l Z a0 hw [] x t kb cs N2 vs (1 : Int32) pos mu rep fl z fm 1 n0 r3 h0 E F C K hc hb_ l2 O hz Om rf X00 rfl (by decide) (by rw [hr3])) W0.2.1 (hw _ (List.mem_of_getElem? (i := 14) rfl)) (hw _ (List.mem_of_getElem? (i := 10) rfl)) (by decide) (by decide)
  obtain ⟨T4, X4, e4, st4⟩ := own_pure (own_cS X2 hx W0.2.1 W0.2.2.1 (hw _ (List.mem_of_getElem? (i := 12) rfl)) (hw _ (List.mem_of_getElem? (i := 13) rfl)) (hw _ (List.mem_of_getElem? (i := 10) rfl)) (hw _ (List.mem_of_getElem? (i := 14) rfl)) (by decide) e2 (h := h0) (argsL := [(.ref x), (.int (1 : Int32)), (.int pos), (.int mu), (.int rep), (.int fl)]) (rest := []) K3 (pc := 21) (Ls := #[.val (.ref x), .val (.int n), .val (.int pos), .val (.int mu), .val (.int rep), .val (.int fl), .val (.int r1), .unset, .unset, .unset, .unset, .unset, .unset]) (by rw [hml]; rfl) (lenOf own_pd3 rfl) rfl (Nat.le_of_eq rfl) (hb hby own_d3_21) (by decide) (by decide))
  refine own_stW (g' := (mkF m 24 #[.val (.ref x), .val (.int n), .val (.int pos), .val (.int mu), .val (.int rep), .val (.int fl), .val (.int r1), .unset, .unset, .unset, .unset, .unset, .unset] [(.int r3)])) st4 ?_
  refine own_stW (g' := (mkF m 34 #[.val (.ref x), .val (.int n), .val (.int pos), .val (.int mu), .val (.int rep), .val (.int fl), .val (.int r1), .val (.int r3), .unset, .unset, .unset, .unset, .unset] [(.int fl), (.int rep), (.int mu), (.int pos), (.int (2 : Int32)), (.ref x)])) (fun _ q => XS.istore X4.here hx rfl (hb hby own_d3_24) rfl (l' := #[.val (.ref x), .val (.int n), .val (.int pos), .val (.int mu), .val (.int rep), .val (.int fl), .val (.int r1), .val (.int r3), .unset, .unset, .unset, .unset, .unset]) rfl (XS.aloadN X4.here hx rfl (hb hby own_d3_26) rfl rfl (XS.iconst X4.here hx rfl (hb hby own_d3_27) (XS.iloadN X4.here hx rfl (hb hby own_d3_28) rfl (XS.iloadN X4.here hx rfl (hb hby own_d3_29) rfl (XS.iload X4.here hx rfl (hb hby own_d3_30) rfl (XS.iload X4.here hx rfl (hb hby own_d3_32) rfl (q)))))))) ?_
  obtain ⟨r5, hr5⟩ : ∃ z : Int32, z = (own_f_at cs 2 (2 : Int32) pos mu rep fl) := ⟨_, rfl⟩
  have K5 : own_Bk l ({ frames := 5, cells := 6, slots := 18, locals := 70 } : Room) p e below (s.setVm s.vm) #[(.ref x), (.int n), (.int pos), (.int mu), (.int rep), (.int fl)] (⟨"org/proofstand/runner/VmModeNamedPinLaw", "at", "(Ljava/lang/String;IIZCC)C"⟩ : MethodName) 0 h0 #[(.ref x), (.int (2 : Int32)), (.int pos), (.int mu), (.int rep), (.int fl)] 0 0 (fun v h L => v = some (.int r5) ∧ L = [] ∧ h = h0) := backOf (s := (s.setVm s.vm)) (R := ({ frames := 5, cells := 6, slots := 18, locals := 70 } : Room)) (W := 0) (Q := (fun v h L => v = some (.int r5) ∧ L = [] ∧ h = h0)) (rm := ({ frames := 4, cells := 0, slots := 0, locals := 53 } : Room)) (own_rm_at l Z a0 hw [] x t kb cs N2 vs (2 : Int32) pos mu rep fl z fm 2 n0 r5 h0 E F C K hc hb_ l2 O hz Om rf X00 rfl (by decide) (by rw [hr5])) W0.2.1 (hw _ (List.mem_of_getElem? (i := 14) rfl)) (hw _ (List.mem_of_getElem? (i := 10) rfl)) (by decide) (by decide)
  obtain ⟨T6, X6, e6, st6⟩ := own_pure (own_cS X4 hx W0.2.1 W0.2.2.1 (hw _ (List.mem_of_getElem? (i := 12) rfl)) (hw _ (List.mem_of_getElem? (i := 13) rfl)) (hw _ (List.mem_of_getElem? (i := 10) rfl)) (hw _ (List.mem_of_getElem? (i := 14) rfl)) (by decide) e4 (h := h0) (argsL := [(.ref x), (.int (2 : Int32)), (.int pos), (.int mu), (.int rep), (.int fl)]) (rest := []) K5 (pc := 34) (Ls := #[.val (.ref x), .val (.int n), .val (.int pos), .val (.int mu), .val (.int rep), .val (.int fl), .val (.int r1), .val (.int r3), .unset, .unset, .unset, .unset, .unset]) (by rw [hml]; rfl) (lenOf own_pd3 rfl) rfl (Nat.le_of_eq rfl) (hb hby own_d3_34) (by decide) (by decide))
  refine own_stW (g' := (mkF m 37 #[.val (.ref x), .val (.int n), .val (.int pos), .val (.int mu), .val (.int rep), .val (.int fl), .val (.int r1), .val (.int r3), .unset, .unset, .unset, .unset, .unset] [(.int r5)])) st6 ?_
  refine own_stW (g' := (mkF m 47 #[.val (.ref x), .val (.int n), .val (.int pos), .val (.int mu), .val (.int rep), .val (.int fl), .val (.int r1), .val (.int r3), .val (.int r5), .unset, .unset, .unset, .unset] [(.int fl), (.int rep), (.int mu), (.int pos), (.int (3 : Int32)), (.ref x)])) (fun _ q => XS.istore X6.here hx rfl (hb hby own_d3_37) rfl (l' := #[.val (.ref x), .val (.int n), .val (.int pos), .val (.int mu), .val (.int rep), .val (.int fl), .val (.int r1), .val (.int r3), .val (.int r5), .unset, .unset, .unset, .unset]) rfl (XS.aloadN X6.here hx rfl (hb hby own_d3_39) rfl rfl (XS.iconst X6.here hx rfl (hb hby own_d3_40) (XS.iloadN X6.here hx rfl (hb hby own_d3_41) rfl (XS.iloadN X6.here hx rfl (hb hby own_d3_42) rfl (XS.iload X6.here hx rfl (hb hby own_d3_43) rfl (XS.iload X6.here hx rfl (hb hby own_d3_45) rfl (q)))))))) ?_
  obtain ⟨r7, hr7⟩ : ∃ z : Int32, z = (own_f_at cs 3 (3 : Int32) pos mu rep fl) := ⟨_, rfl⟩
  have K7 : own_Bk l ({ frames := 5, cells := 6, slots := 18, locals := 70 } : Room) p e below (s.setVm s.vm) #[(.ref x), (.int n), (.int pos), (.int mu), (.int rep), (.int fl)] (⟨"org/proofstand/runner/VmModeNamedPinLaw", "at", "(Ljava/lang/String;IIZCC)C"⟩ : MethodName) 0 h0 #[(.ref x), (.int (3 : Int32)), (.int pos), (.int mu), (.int rep), (.int fl)] 0 0 (fun v h L => v = some (.int r7) ∧ L = [] ∧ h = h0) := backOf (s := (s.setVm s.vm)) (R := ({ frames := 5, cells := 6, slots := 18, locals := 70 } : Room)) (W := 0) (Q := (fun v h L => v = some (.int r7) ∧ L = [] ∧ h = h0)) (rm := ({ frames := 4, cells := 0, slots := 0, locals := 53 } : Room)) (own_rm_at l Z a0 hw [] x t kb cs N2 vs (3 : Int32) pos mu rep fl z fm 3 n0 r7 h0 E F C K hc hb_ l2 O hz Om rf X00 rfl (by decide) (by rw [hr7])) W0.2.1 (hw _ (List.mem_of_getElem? (i := 14) rfl)) (hw _ (List.mem_of_getElem? (i := 10) rfl)) (by decide) (by decide)
  obtain ⟨T8, X8, e8, st8⟩ := own_pure (own_cS X6 hx W0.2.1 W0.2.2.1 (hw _ (List.mem_of_getElem? (i := 12) rfl)) (hw _ (List.mem_of_getElem? (i := 13) rfl)) (hw _ (List.mem_of_getElem? (i := 10) rfl)) (hw _ (List.mem_of_getElem? (i := 14) rfl)) (by decide) e6 (h := h0) (argsL := [(.ref x), (.int (3 : Int32)), (.int pos), (.int mu), (.int rep), (.int fl)]) (rest := []) K7 (pc := 47) (Ls := #[.val (.ref x), .val (.int n), .val (.int pos), .val (.int mu), .val (.int rep), .val (.int fl), .val (.int r1), .val (.int r3), .val (.int r5), .unset, .unset, .unset, .unset]) (by rw [hml]; rfl) (lenOf own_pd3 rfl) rfl (Nat.le_of_eq rfl) (hb hby own_d3_47) (by decide) (by decide))
  refine own_stW (g' := (mkF m 50 #[.val (.ref x), .val (.int n), .val (.int pos), .val (.int mu), .val (.int rep), .val (.int fl), .val (.int r1), .val (.int r3), .val (.int r5), .unset, .unset, .unset, .unset] [(.int r7)])) st8 ?_
  refine own_stW (g' := (mkF m 60 #[.val (.ref x), .val (.int n), .val (.int pos), .val (.int mu), .val (.int rep), .val (.int fl), .val (.int r1), .val (.int r3), .val (.int r5), .val (.int r7), .unset, .unset, .unset] [(.int fl), (.int rep), (.int mu), (.int pos), (.int (4 : Int32)), (.ref x)])) (fun _ q => XS.istore X8.here hx rfl (hb hby own_d3_50) rfl (l' := #[.val (.ref x), .val (.int n), .val (.int pos), .val (.int mu), .val (.int rep), .val (.int fl), .val (.int r1), .val (.int r3), .val (.int r5), .val (.int r7), .unset, .unset, .unset]) rfl (XS.aloadN X8.here hx rfl (hb hby own_d3_52) rfl rfl (XS.iconst X8.here hx rfl (hb hby own_d3_53) (XS.iloadN X8.here hx rfl (hb hby own_d3_54) rfl (XS.iloadN X8.here hx rfl (hb hby own_d3_55) rfl (XS.iload X8.here hx rfl (hb hby own_d3_56) rfl (XS.iload X8.here hx rfl (hb hby own_d3_58) rfl (q)))))))) ?_
  obtain ⟨r9, hr9⟩ : ∃ z : Int32, z = (own_f_at cs 4 (4 : Int32) pos mu rep fl) := ⟨_, rfl⟩
  have K9 : own_Bk l ({ frames := 5, cells := 6, slots := 18, locals := 70 } : Room) p e below (s.setVm s.vm) #[(.ref x), (.int n), (.int pos), (.int mu), (.int rep), (.int fl)] (⟨"org/proofstand/runner/VmModeNamedPinLaw", "at", "(Ljava/lang/String;IIZCC)C"⟩ : MethodName) 0 h0 #[(.ref x), (.int (4 : Int32)), (.int pos), (.int mu), (.int rep), (.int fl)] 0 0 (fun v h L => v = some (.int r9) ∧ L = [] ∧ h = h0) := backOf (s := (s.setVm s.vm)) (R := ({ frames := 5, cells := 6, slots := 18, locals := 70 } : Room)) (W := 0) (Q := (fun v h L => v = some (.int r9) ∧ L = [] ∧ h = h0)) (rm := ({ frames := 4, cells := 0, slots := 0, locals := 53 } : Room)) (own_rm_at l Z a0 hw [] x t kb cs N2 vs (4 : Int32) pos mu rep fl z fm 4 n0 r9 h0 E F C K hc hb_ l2 O hz Om rf X00 rfl (by decide) (by rw [hr9])) W0.2.1 (hw _ (List.mem_of_getElem? (i := 14) rfl)) (hw _ (List.mem_of_getElem? (i := 10) rfl)) (by decide) (by decide)
  obtain ⟨T10, X10, e10, st10⟩ := own_pure (own_cS X8 hx W0.2.1 W0.2.2.1 (hw _ (List.mem_of_getElem? (i := 12) rfl)) (hw _ (List.mem_of_getElem? (i := 13) rfl)) (hw _ (List.mem_of_getElem? (i := 10) rfl)) (hw _ (List.mem_of_getElem? (i := 14) rfl)) (by decide) e8 (h := h0) (argsL := [(.ref x), (.int (4 : Int32)), (.int pos), (.int mu), (.int rep), (.int fl)]) (rest := []) K9 (pc := 60) (Ls := #[.val (.ref x), .val (.int n), .val (.int pos), .val (.int mu), .val (.int rep), .val (.int fl), .val (.int r1), .val (.int r3), .val (.int r5), .val (.int r7), .unset, .unset, .unset]) (by rw [hml]; rfl) (lenOf own_pd3 rfl) rfl (Nat.le_of_eq rfl) (hb hby own_d3_60) (by decide) (by decide))
  refine own_stW (g' := (mkF m 63 #[.val (.ref x), .val (.int n), .val (.int pos), .val (.int mu), .val (.int rep), .val (.int fl), .val (.int r1), .val (.int r3), .val (.int r5), .val (.int r7), .unset, .unset, .unset] [(.int r9)])) st10 ?_
  refine own_stW (g' := (mkF m 73 #[.val (.ref x), .val (.int n), .val (.int pos), .val (.int mu), .val (.int rep), .val (.int fl), .val (.int r1), .val (.int r3), .val (.int r5), .val (.int r7), .val (.int r9), .unset, .unset] [(.int fl), (.int rep), (.int mu), (.int pos), (.int (5 : Int32)), (.ref x)])) (fun _ q => XS.istore X10.here hx rfl (hb hby own_d3_63) rfl (l' := #[.val (.ref x), .val (.int n), .val (.int pos), .val (.int mu), .val (.int rep), .val (.int fl), .val (.int r1), .val (.int r3), .val (.int r5), .val (.int r7), .val (.int r9), .unset, .unset]) rfl (XS.aloadN X10.here hx rfl (hb hby own_d3_65) rfl rfl (XS.iconst X10.here hx rfl (hb hby own_d3_66) (XS.iloadN X10.here hx rfl (hb hby own_d3_67) rfl (XS.iloadN X10.here hx rfl (hb hby own_d3_68) rfl (XS.iload X10.here hx rfl (hb hby own_d3_69) rfl (XS.iload X10.here hx rfl (hb hby own_d3_71) rfl (q)))))))) ?_
  obtain ⟨r11, hr11⟩ : ∃ z : Int32, z = (own_f_at cs 5 (5 : Int32) pos mu rep fl) := ⟨_, rfl⟩
  have K11 : own_Bk l ({ frames := 5, cells := 6, slots := 18, locals := 70 } : Room) p e below (s.setVm s.vm) #[(.ref x), (.int n), (.int pos), (.int mu), (.int rep), (.int fl)] (⟨"org/proofstand/runner/VmModeNamedPinLaw", "at", "(Ljava/lang/String;IIZCC)C"⟩ : MethodName) 0 h0 #[(.ref x), (.int (5 : Int32)), (.int pos), (.int mu), (.int rep), (.int fl)] 0 0 (fun v h L => v = some (.int r11) ∧ L = [] ∧ h = h0) := backOf (s := (s.setVm s.vm)) (R := ({ frames := 5, cells := 6, slots := 18, locals := 70 } : Room)) (W := 0) (Q := (fun v h L => v = some (.int r11) ∧ L = [] ∧ h = h0)) (rm := ({ frames := 4, cells := 0, slots := 0, locals := 53 } : Room)) (own_rm_at l Z a0 hw [] x t kb cs N2 vs (5 : Int32) pos mu rep fl z fm 5 n0 r11 h0 E F C K hc hb_ l2 O hz Om rf X00 rfl (by decide) (by rw [hr11])) W0.2.1 (hw _ (List.mem_of_getElem? (i := 14) rfl)) (hw _ (List.mem_of_getElem? (i := 10) rfl)) (by decide) (by decide)
  obtain ⟨T12, X12, e12, st12⟩ := own_pure (own_cS X10 hx W0.2.1 W0.2.2.1 (hw _ (List.mem_of_getElem? (i := 12) rfl)) (hw _ (List.mem_of_getElem? (i := 13) rfl)) (hw _ (List.mem_of_getElem? (i := 10) rfl)) (hw _ (List.mem_of_getElem? (i := 14) rfl)) (by decide) e10 (h := h0) (argsL := [(.ref x), (.int (5 : Int32)), (.int pos), (.int mu), (.int rep), (.int fl)]) (rest := []) K11 (pc := 73) (Ls := #[.val (.ref x), .val (.int n), .val (.int pos), .val (.int mu), .val (.int rep), .val (.int fl), .val (.int r1), .val (.int r3), .val (.int r5), .val (.int r7), .val (.int r9), .unset, .unset]) (by rw [hml]; rfl) (lenOf own_pd3 rfl) rfl (Nat.le_of_eq rfl) (hb hby own_d3_73) (by decide) (by decide))
  refine own_stW (g' := (mkF m 76 #[.val (.ref x), .val (.int n), .val (.int pos), .val (.int mu), .val (.int rep), .val (.int fl), .val (.int r1), .val (.int r3), .val (.int r5), .val (.int r7), .val (.int r9), .unset, .unset] [(.int r11)])) st12 ?_
  refine own_stW (g' := (mkF m 87 #[.val (.ref x), .val (.int n), .val (.int pos), .val (.int mu), .val (.int rep), .val (.int fl), .val (.int r1), .val (.int r3), .val (.int r5), .val (.int r7), .val (.int r9), .val (.int r11), .unset] [(.int fl), (.int rep), (.int mu), (.int pos), (.int (6 : Int32)), (.ref x)])) (fun _ q => XS.istore X12.here hx rfl (hb hby own_d3_76) rfl (l' := #[.val (.ref x), .val (.int n), .val (.int pos), .val (.int mu), .val (.int rep), .val (.int fl), .val (.int r1), .val (.int r3), .val (.int r5), .val (.int r7), .val (.int r9), .val (.int r11), .unset]) rfl (XS.aloadN X12.here hx rfl (hb hby own_d3_78) rfl rfl (XS.bipush X12.here hx rfl (hb hby own_d3_79) (XS.iloadN X12.here hx rfl (hb hby own_d3_81) rfl (XS.iloadN X12.here hx rfl (hb hby own_d3_82) rfl (XS.iload X12.here hx rfl (hb hby own_d3_83) rfl (XS.iload X12.here hx rfl (hb hby own_d3_85) rfl (q)))))))) ?_
  obtain ⟨r13, hr13⟩ : ∃ z : Int32, z = (own_f_at cs 6 (6 : Int32) pos mu rep fl) := ⟨_, rfl⟩
  have K13 : own_Bk l ({ frames := 5, cells := 6, slots := 18, locals := 70 } : Room) p e below (s.setVm s.vm) #[(.ref x), (.int n), (.int pos), (.int mu), (.int rep), (.int fl)] (⟨"org/proofstand/runner/VmModeNamedPinLaw", "at", "(Ljava/lang/String;IIZCC)C"⟩ : MethodName) 0 h0 #[(.ref x), (.int (6 : Int32)), (.int pos), (.int mu), (.int rep), (.int fl)] 0 0 (fun v h L => v = some (.int r13) ∧ L = [] ∧ h = h0) := backOf (s := (s.setVm s.vm)) (R := ({ frames := 5, cells := 6, slots := 18, locals := 70 } : Room)) (W := 0) (Q := (fun v h L => v = some (.int r13) ∧ L = [] ∧ h = h0)) (rm := ({ frames := 4, cells := 0, slots := 0, locals := 53 } : Room)) (own_rm_at l Z a0 hw [] x t kb cs N2 vs (6 : Int32) pos mu rep fl z fm 6 n0 r13 h0 E F C K hc hb_ l2 O hz Om rf X00 rfl (by decide) (by rw [hr13])) W0.2.1 (hw _ (List.mem_of_getElem? (i := 14) rfl)) (hw _ (List.mem_of_getElem? (i := 10) rfl)) (by decide) (by decide)
  obtain ⟨T14, X14, e14, st14⟩ := own_pure (own_cS X12 hx W0.2.1 W0.2.2.1 (hw _ (List.mem_of_getElem? (i := 12) rfl)) (hw _ (List.mem_of_getElem? (i := 13) rfl)) (hw _ (List.mem_of_getElem? (i := 10) rfl)) (hw _ (List.mem_of_getElem? (i := 14) rfl)) (by decide) e12 (h := h0) (argsL := [(.ref x), (.int (6 : Int32)), (.int pos), (.int mu), (.int rep), (.int fl)]) (rest := []) K13 (pc := 87) (Ls := #[.val (.ref x), .val (.int n), .val (.int pos), .val (.int mu), .val (.int rep), .val (.int fl), .val (.int r1), .val (.int r3), .val (.int r5), .val (.int r7), .val (.int r9), .val (.int r11), .unset]) (by rw [hml]; rfl) (lenOf own_pd3 rfl) rfl (Nat.le_of_eq rfl) (hb hby own_d3_87) (by decide) (by decide))
  refine own_stW (g' := (mkF m 90 #[.val (.ref x), .val (.int n), .val (.int pos), .val (.int mu), .val (.int rep), .val (.int fl), .val (.int r1), .val (.int r3), .val (.int r5), .val (.int r7), .val (.int r9), .val (.int r11), .unset] [(.int r13)])) st14 ?_
  refine own_stW (g' := (mkF m 93 #[.val (.ref x), .val (.int n), .val (.int pos), .val (.int mu), .val (.int rep), .val (.int fl), .val (.int r1), .val (.int r3), .val (.int r5), .val (.int r7), .val (.int r9), .val (.int r11), .val (.int r13)] [(.int n)])) (fun _ q => XS.istore X14.here hx rfl (hb hby own_d3_90) rfl (l' := #[.val (.ref x), .val (.int n), .val (.int pos), .val (.int mu), .val (.int rep), .val (.int fl), .val (.int r1), .val (.int r3), .val (.int r5), .val (.int r7), .val (.int r9), .val (.int r11), .val (.int r13)]) rfl (XS.iloadN X14.here hx rfl (hb hby own_d3_92) rfl (q))) ?_
  by_cases hc15 : n = (0 : Int32)
  · -- n = (0 : Int32)
    refine own_stW (g' := (mkF m 96 #[.val (.ref x), .val (.int n), .val (.int pos), .val (.int mu), .val (.int rep), .val (.int fl), .val (.int r1), .val (.int r3), .val (.int r5), .val (.int r7), .val (.int r9), .val (.int r11), .val (.int r13)] [])) (fun _ q => XS.ifNo X14.here hx rfl (hb hby own_d3_93) rfl ((if0 _ _).trans (teq hc15).2) (q)) ?_
    obtain ⟨T16, h16, X16, e16, E16, A16, D16, U16, st16⟩ := newO X14 hx W0.2.1 W0.2.2.1 (hw _ (List.mem_of_getElem? (i := 50) rfl)) (hw _ (List.mem_of_getElem? (i := 2) rfl)) (hw _ (List.mem_of_getElem? (i := 1) rfl)) e14 (g := (mkF m 96 #[.val (.ref x), .val (.int n), .val (.int pos), .val (.int mu), .val (.int rep), .val (.int fl), .val (.int r1), .val (.int r3), .val (.int r5), .val (.int r7), .val (.int r9), .val (.int r11), .val (.int r13)] [])) rfl (hb hby own_d3_96) (by decide) (by decide)
    obtain ⟨b16, g16⟩ : ∃ z, z = h0.size := ⟨_, rfl⟩
    rw [← g16] at A16 D16 U16 st16
    have w17 := W0.ext E16
    have F16_value : Fld Z h16 b16 "java/lang/String" "value" "[B" .null := D16 (Or.inr (hw _ (List.mem_of_getElem? (i := 4) rfl))) (ty := (.array .byte)) (by decide)
    have F16_coder : Fld Z h16 b16 "java/lang/String" "coder" "B" (.int (0 : Int32)) := D16 (Or.inr (hw _ (List.mem_of_getElem? (i := 5) rfl))) (ty := .byte) (by decide)
    refine own_stW (g' := (mkF m 99 #[.val (.ref x), .val (.int n), .val (.int pos), .val (.int mu), .val (.int rep), .val (.int fl), .val (.int r1), .val (.int r3), .val (.int r5), .val (.int r7), .val (.int r9), .val (.int r11), .val (.int r13)] [(.ref b16)])) st16 ?_
    refine own_stW (g' := (mkF m 101 #[.val (.ref x), .val (.int n), .val (.int pos), .val (.int mu), .val (.int rep), .val (.int fl), .val (.int r1), .val (.int r3), .val (.int r5), .val (.int r7), .val (.int r9), .val (.int r11), .val (.int r13)] [(.int (0 : Int32)), (.ref b16), (.ref b16)])) (fun _ q => XS.dup X16.here hx rfl (hb hby own_d3_99) rfl rfl (XS.iconst X16.here hx rfl (hb hby own_d3_100) (q))) ?_
    obtain ⟨T18, h18, k18, X18, e18, E18, A18, st18⟩ := newP X16 hx w17.2.1 (hw _ (List.mem_of_getElem? (i := 51) rfl)) e16 (g := (mkF m 101 #[.val (.ref x), .val (.int n), .val (.int pos), .val (.int mu), .val (.int rep), .val (.int fl), .val (.int r1), .val (.int r3), .val (.int r5), .val (.int r7), .val (.int r9), .val (.int r11), .val (.int r13)] [(.int (0 : Int32)), (.ref b16), (.ref b16)])) rfl (hb hby own_d3_101) rfl (by decide) (cap := 0) (by decide) (by decide) (by decide) (by decide)
    obtain ⟨b18, g18⟩ : ∃ z, z = h16.size := ⟨_, rfl⟩
    rw [← g18] at A18 st18
    have V18 : Arv Z h18 b18 k18 .char (0 : Int32) [] (.int (0 : Int32)) := (Arv.new A18 (by decide)).pad (pad_rep [] (.int (0 : Int32)) 0)
    have w19 := w17.ext E18
    refine own_stW (g' := (mkF m 103 #[.val (.ref x), .val (.int n), .val (.int pos), .val (.int mu), .val (.int rep), .val (.int fl), .val (.int r1), .val (.int r3), .val (.int r5), .val (.int r7), .val (.int r9), .val (.int r11), .val (.int r13)] [(.ref b18), (.ref b16), (.ref b16)])) st18 ?_
    have K20 : own_BkW l ({ frames := 5, cells := 6, slots := 18, locals := 70 } : Room) p e below s #[(.ref x), (.int n), (.int pos), (.int mu), (.int rep), (.int fl)] (⟨"java/lang/String", "<init>", "([C)V"⟩ : MethodName) 1 Z own_EL s.vm h18 #[(.ref b16), (.ref b18)] 4 8 (own_Q_sie1 Z b16 b18 k18 (.int (0 : Int32)) n0 h18) := own_backW (R := ({ frames := 5, cells := 6, slots := 18, locals := 70 } : Room)) (W := 1) (Qc := (own_Q_sie1 Z b16 b18 k18 (.int (0 : Int32)) n0 h18)) (rm := ({ frames := 2, cells := 4, slots := 8, locals := 29 } : Room)) (xs := [b16]) (own_rm_sie1 l Z a0 hw [] b16 b18 k18 (.int (0 : Int32)) n0 h18 (Nat.le_trans Z0 (Nat.le_trans E16.1 E18.1)) ((X00.ext E16).ext E18) (A16.ext E18) (F16_value.ext E18) (F16_coder.ext E18) (Nat.le_trans Z0 (Nat.le_of_eq g16.symm)) V18) w19 (hw _ (List.mem_of_getElem? (i := 54) rfl)) (hw _ (List.mem_of_getElem? (i := 1) rfl)) (by decide) (by decide) hEL (allS ⟨(Nat.lt_of_lt_of_le A16.lt E18.1), (Safe.ext E18 w17.held (Safe.ext E16 W0.held (Safe.new (Nat.le_of_eq g16.symm))))⟩ all0)
    obtain ⟨_, L21, T21, X21, ⟨rfl, N21q, K21, E21, t21, kb21, u21, F21, Cd21, A21⟩, w21, C21, st21⟩ := own_cIW X18 hx w19 rfl (hw _ (List.mem_of_getElem? (i := 52) rfl)) (hw _ (List.mem_of_getElem? (i := 53) rfl)) (hw _ (List.mem_of_getElem? (i := 54) rfl)) (by decide) e18 (h := h18) (b := b16) (argsL := [(.ref b18)]) (rest := [(.ref b16)]) K20 (pc := 103) (Ls := #[.val (.ref x), .val (.int n), .val (.int pos), .val (.int mu), .val (.int rep), .val (.int fl), .val (.int r1), .val (.int r3), .val (.int r5), .val (.int r7), .val (.int r9), .val (.int r11), .val (.int r13)]) (by rw [hml]; rfl) (lenOf own_pd4 rfl) rfl (Nat.le_of_eq rfl) (hb hby own_d3_103) (by decide) (by decide)
    have N21 := Fr.app N0 N21q
    refine own_stW (g' := (mkF m 106 #[.val (.ref x), .val (.int n), .val (.int pos), .val (.int mu), .val (.int rep), .val (.int fl), .val (.int r1), .val (.int r3), .val (.int r5), .val (.int r7), .val (.int r9), .val (.int r11), .val (.int r13)] [(.ref b16)])) st21 ?_
    exact own_goWR X21 hh w21 hEL rfl hlk hx (t := (.object "java/lang/String")) rfl rfl Bd.returns (hb hby own_d3_106) ⟨N21, ((((Keep.refl h0 []).ext E16).ext E18).trans K21 (allS (Or.inr (Nat.le_trans (Nat.le_refl _) (Nat.le_of_eq g16.symm))) all0)), b16, t21, kb21, _, _, rfl, u21, E21, F21, Cd21, A21, (by rw [own_bs, if_pos hc15]; exact Or.inl ⟨rfl, rfl, rfl, fun _ q => nomatch q⟩)⟩ (by decide) (by decide)
  · -- not: n = (0 : Int32)
    refine own_stW (g' := (mkF m 109 #[.val (.ref x), .val (.int n), .val (.int pos), .val (.int mu), .val (.int rep), .val (.int fl), .val (.int r1), .val (.int r3), .val (.int r5), .val (.int r7), .val (.int r9), .val (.int r11), .val (.int r13)] [(.int (1 : Int32)), (.int n)])) (fun _ q => XS.ifYes X14.here hx rfl (pc0 := 93) (pc' := 107) rfl (hb hby own_d3_93) rfl ((if0 _ _).trans (feq hc15).2) (by decide) (by decide) (XS.iloadN X14.here hx rfl (hb hby own_d3_107) rfl (XS.iconst X14.here hx rfl (hb hby own_d3_108) (q)))) ?_
    by_cases hc22 : n = (1 : Int32)
    · -- n = (1 : Int32)
      refine own_stW (g' := (mkF m 112 #[.val (.ref x), .val (.int n), .val (.int pos), .val (.int mu), .val (.int rep), .val (.int fl), .val (.int r1), .val (.int r3), .val (.int r5), .val (.int r7), .val (.int r9), .val (.int r11), .val (.int r13)] [])) (fun _ q => XS.icmpNo X14.here hx rfl (hb hby own_d3_109) rfl (teq hc22).2 (q)) ?_
      obtain ⟨T23, h23, X23, e23, E23, A23, D23, U23, st23⟩ := newO X14 hx W0.2.1 W0.2.2.1 (hw _ (List.mem_of_getElem? (i := 50) rfl)) (hw _ (List.mem_of_getElem? (i := 2) rfl)) (hw _ (List.mem_of_getElem? (i := 1) rfl)) e14 (g := (mkF m 112 #[.val (.ref x), .val (.int n), .val (.int pos), .val (.int mu), .val (.int rep), .val (.int fl), .val (.int r1), .val (.int r3), .val (.int r5), .val (.int r7), .val (.int r9), .val (.int r11), .val (.int r13)] [])) rfl (hb hby own_d3_112) (by decide) (by decide)
      obtain ⟨b23, g23⟩ : ∃ z, z = h0.size := ⟨_, rfl⟩
      rw [← g23] at A23 D23 U23 st23
      have w24 := W0.ext E23
      have F23_value : Fld Z h23 b23 "java/lang/String" "value" "[B" .null := D23 (Or.inr (hw _ (List.mem_of_getElem? (i := 4) rfl))) (ty := (.array .byte)) (by decide)
      have F23_coder : Fld Z h23 b23 "java/lang/String" "coder" "B" (.int (0 : Int32)) := D23 (Or.inr (hw _ (List.mem_of_getElem? (i := 5) rfl))) (ty := .byte) (by decide)
      refine own_stW (g' := (mkF m 115 #[.val (.ref x), .val (.int n), .val (.int pos), .val (.int mu), .val (.int rep), .val (.int fl), .val (.int r1), .val (.int r3), .val (.int r5), .val (.int r7), .val (.int r9), .val (.int r11), .val (.int r13)] [(.ref b23)])) st23 ?_
      refine own_stW (g' := (mkF m 117 #[.val (.ref x), .val (.int n), .val (.int pos), .val (.int mu), .val (.int rep), .val (.int fl), .val (.int r1), .val (.int r3), .val (.int r5), .val (.int r7), .val (.int r9), .val (.int r11), .val (.int r13)] [(.int (1 : Int32)), (.ref b23), (.ref b23)])) (fun _ q => XS.dup X23.here hx rfl (hb hby own_d3_115) rfl rfl (XS.iconst X23.here hx rfl (hb hby own_d3_116) (q))) ?_
      obtain ⟨T25, h25, k25, X25, e25, E25, A25, st25⟩ := newP X23 hx w24.2.1 (hw _ (List.mem_of_getElem? (i := 51) rfl)) e23 (g := (mkF m 117 #[.val (.ref x), .val (.int n), .val (.int pos), .val (.int mu), .val (.int rep), .val (.int fl), .val (.int r1), .val (.int r3), .val (.int r5), .val (.int r7), .val (.int r9), .val (.int r11), .val (.int r13)] [(.int (1 : Int32)), (.ref b23), (.ref b23)])) rfl (hb hby own_d3_117) rfl (by decide) (cap := 1) (by decide) (by decide) (by decide) (by decide)
      obtain ⟨b25, g25⟩ : ∃ z, z = h23.size := ⟨_, rfl⟩
      rw [← g25] at A25 st25
      have V25 : Arv Z h25 b25 k25 .char (1 : Int32) [(.int (0 : Int32))] (.int (0 : Int32)) := (Arv.new A25 (by decide)).pad (pad_rep [] (.int (0 : Int32)) 1)
      have w26 := w24.ext E25
      refine own_stW (g' := (mkF m 119 #[.val (.ref x), .val (.int n), .val (.int pos), .val (.int mu), .val (.int rep), .val (.int fl), .val (.int r1), .val (.int r3), .val (.int r5), .val (.int r7), .val (.int r9), .val (.int r11), .val (.int r13)] [(.ref b25), (.ref b23), (.ref b23)])) st25 ?_
      refine own_stW (g' := (mkF m 123 #[.val (.ref x), .val (.int n), .val (.int pos), .val (.int mu), .val (.int rep), .val (.int fl), .val (.int r1), .val (.int r3), .val (.int r5), .val (.int r7), .val (.int r9), .val (.int r11), .val (.int r13)] [(.int r1), (.int (0 : Int32)), (.ref b25), (.ref b25), (.ref b23), (.ref b23)])) (fun _ q => XS.dup X25.here hx rfl (hb hby own_d3_119) rfl rfl (XS.iconst X25.here hx rfl (hb hby own_d3_120) (XS.iload X25.here hx rfl (hb hby own_d3_121) rfl (q)))) ?_
      obtain ⟨T27, h27, X27, e27, V27, W27, st27⟩ := own_cast X25 hx w26.2.1 e25 V25 (j := (0 : Int32)) (x := r1) ⟨by decide, by decide⟩ 0 rfl (Nat.le_of_ble_eq_true rfl) (pc := 123) (Ls := #[.val (.ref x), .val (.int n), .val (.int pos), .val (.int mu), .val (.int rep), .val (.int fl), .val (.int r1), .val (.int r3), .val (.int r5), .val (.int r7), .val (.int r9), .val (.int r11), .val (.int r13)]) (rest := [(.ref b25), (.ref b23), (.ref b23)]) (hb hby own_d3_123)
      replace V27 : Arv Z h27 b25 k25 .char (1 : Int32) [(.int d0)] (.int (0 : Int32)) := by rw [hd0, ← hr1]; exact V27
      have N27 := Fr.snoc X27 N0 (Nat.le_trans (Nat.le_trans Z0 E23.1) (Nat.le_of_eq g25.symm))
      have w28 := w26.wr W27 (Safe.arv w26.2.1.alike V25 (by simp))
      refine own_stW (g' := (mkF m 124 #[.val (.ref x), .val (.int n), .val (.int pos), .val (.int mu), .val (.int rep), .val (.int fl), .val (.int r1), .val (.int r3), .val (.int r5), .val (.int r7), .val (.int r9), .val (.int r11), .val (.int r13)] [(.ref b25), (.ref b23), (.ref b23)])) st27 ?_
      obtain ⟨_, L29, T29, X29, ⟨rfl, N29q, K29, E29, C29, t29, kb29, u29, v29, w29, F29, A29⟩, st29⟩ := own_cI X27 hx w28.2.1 rfl w28.2.2.1 (hw _ (List.mem_of_getElem? (i := 52) rfl)) (hw _ (List.mem_of_getElem? (i := 53) rfl)) (hw _ (List.mem_of_getElem? (i := 54) rfl)) (by decide) e27 (h := h27) (b := b23) (argsL := [(.ref b25)]) (rest := [(.ref b23)]) (StrChars.Road.backV (s := (s.setVm s.vm)) (W := 1) w28.2.1 hws (kI := 4) (hw _ (List.mem_of_getElem? (i := 2) rfl)) (cs := ([d0] : List Int32)) (bs := (([d0] : List Int32)).map (fun c => c.toInt8.toInt32)) (n := 1) (n0 := n0) (Nat.le_trans Z0 (Nat.le_of_eq g23.symm)) (Nat.le_trans Z0 (Nat.le_trans (Nat.le_trans E23.1 E25.1) (Keep.of_wr W27).1)) ((A23.ext E25).wr W27) ((F23_value.ext E25).other W27 (Or.inl (Nat.ne_of_lt (Nat.lt_of_lt_of_eq A23.lt g25.symm)))) ((F23_coder.ext E25).other W27 (Or.inl (Nat.ne_of_lt (Nat.lt_of_lt_of_eq A23.lt g25.symm)))) V27 (O.ext (((X00.ext E23).ext E25).wr W27 (Nat.le_trans (Nat.le_trans Z0 E23.1) (Nat.le_of_eq g25.symm))).2) hz rfl rfl (by decide) (by decide) (fun c hc => hp c (List.mem_append_left [d1, d2, d3, d4, d5, d6] hc)) rfl (by decide) (by decide)) (pc := 124) (Ls := #[.val (.ref x), .val (.int n), .val (.int pos), .val (.int mu), .val (.int rep), .val (.int fl), .val (.int r1), .val (.int r3), .val (.int r5), .val (.int r7), .val (.int r9), .val (.int r11), .val (.int r13)]) (by rw [hml]; rfl) (lenOf own_pd4 rfl) rfl (Nat.le_of_eq rfl) (hb hby own_d3_124) (by decide) (by decide)
      refine own_stW (g' := (mkF m 127 #[.val (.ref x), .val (.int n), .val (.int pos), .val (.int mu), .val (.int rep), .val (.int fl), .val (.int r1), .val (.int r3), .val (.int r5), .val (.int r7), .val (.int r9), .val (.int r11), .val (.int r13)] [(.ref b23)])) st29 ?_
      have N29 := Fr.app N27 N29q
      have w30 := w28.keep K29 (sfS (Safe.wr W27 (Safe.ext E25 w24.held (Safe.new (Nat.le_of_eq g25.symm))) w26.held (Safe.ext E25 w24.held (Safe.ext E23 W0.held (Safe.new (Nat.le_of_eq g23.symm))))) sf0)
      exact own_goWR X29 hh w30 hEL rfl hlk hx (t := (.object "java/lang/String")) rfl rfl Bd.returns (hb hby own_d3_127) ⟨N29, (((((Keep.refl h0 []).ext E23).ext E25).wr W27 (Or.inr (Nat.le_trans E23.1 (Nat.le_of_eq g25.symm)))).trans K29 (allS (Or.inr (Nat.le_trans (Nat.le_refl _) (Nat.le_of_eq g23.symm))) all0)), b23, t29, kb29, _, _, rfl, A29.lt, E29, F29, C29, A29, (by rw [own_bs, if_neg hc15, if_pos hc22]; exact StrChars.Road.codOf (n := 1) rfl (fun c hc => (hp c (List.mem_append_left [d1, d2, d3, d4, d5, d6] hc)).2))⟩ (by decide) (by decide)
    · -- not: n = (1 : Int32)
      refine own_stW (g' := (mkF m 130 #[.val (.ref x), .val (.int n), .val (.int pos), .val (.int mu), .val (.int rep), .val (.int fl), .val (.int r1), .val (.int r3), .val (.int r5), .val (.int r7), .val (.int r9), .val (.int r11), .val (.int r13)] [(.int (2 : Int32)), (.int n)])) (fun _ q => XS.icmpYes X14.here hx rfl (pc0 := 109) (pc' := 128) rfl (hb hby own_d3_109) rfl (feq hc22).2 (by decide) (by decide) (XS.iloadN X14.here hx rfl (hb hby own_d3_128) rfl (XS.iconst X14.here hx rfl (hb hby own_d3_129) (q)))) ?_
      by_cases hc31 : n = (2 : Int32)
      · -- n = (2 : Int32)
        refine own_stW (g' := (mkF m 133 #[.val (.ref x), .val (.int n), .val (.int pos), .val (.int mu), .val (.int rep), .val (.int fl), .val (.int r1), .val (.int r3), .val (.int r5), .val (.int r7), .val (.int r9), .val (.int r11), .val (.int r13)] [])) (fun _ q => XS.icmpNo X14.here hx rfl (hb hby own_d3_130) rfl (teq hc31).2 (q)) ?_
        obtain ⟨T32, h32, X32, e32, E32, A32, D32, U32, st32⟩ := newO X14 hx W0.2.1 W0.2.2.1 (hw _ (List.mem_of_getElem? (i := 50) rfl)) (hw _ (List.mem_of_getElem? (i := 2) rfl)) (hw _ (List.mem_of_getElem? (i := 1) rfl)) e14 (g := (mkF m 133 #[.val (.ref x), .val (.int n), .val (.int pos), .val (.int mu), .val (.int rep), .val (.int fl), .val (.int r1), .val (.int r3), .val (.int r5), .val (.int r7), .val (.int r9), .val (.int r11), .val (.int r13)] [])) rfl (hb hby own_d3_133) (by decide) (by decide)
        obtain ⟨b32, g32⟩ : ∃ z, z = h0.size := ⟨_, rfl⟩
        rw [← g32] at A32 D32 U32 st32
        have w33 := W0.ext E32
        have F32_value : Fld Z h32 b32 "java/lang/String" "value" "[B" .null := D32 (Or.inr (hw _ (List.mem_of_getElem? (i := 4) rfl))) (ty := (.array .byte)) (by decide)
        have F32_coder : Fld Z h32 b32 "java/lang/String" "coder" "B" (.int (0 : Int32)) := D32 (Or.inr (hw _ (List.mem_of_getElem? (i := 5) rfl))) (ty := .byte) (by decide)
        refine own_stW (g' := (mkF m 136 #[.val (.ref x), .val (.int n), .val (.int pos), .val (.int mu), .val (.int rep), .val (.int fl), .val (.int r1), .val (.int r3), .val (.int r5), .val (.int r7), .val (.int r9), .val (.int r11), .val (.int r13)] [(.ref b32)])) st32 ?_
        refine own_stW (g' := (mkF m 138 #[.val (.ref x), .val (.int n), .val (.int pos), .val (.int mu), .val (.int rep), .val (.int fl), .val (.int r1), .val (.int r3), .val (.int r5), .val (.int r7), .val (.int r9), .val (.int r11), .val (.int r13)] [(.int (2 : Int32)), (.ref b32), (.ref b32)])) (fun _ q => XS.dup X32.here hx rfl (hb hby own_d3_136) rfl rfl (XS.iconst X32.here hx rfl (hb hby own_d3_137) (q))) ?_
        obtain ⟨T34, h34, k34, X34, e34, E34, A34, st34⟩ := newP X32 hx w33.2.1 (hw _ (List.mem_of_getElem? (i := 51) rfl)) e32 (g := (mkF m 138 #[.val (.ref x), .val (.int n), .val (.int pos), .val (.int mu), .val (.int rep), .val (.int fl), .val (.int r1), .val (.int r3), .val (.int r5), .val (.int r7), .val (.int r9), .val (.int r11), .val (.int r13)] [(.int (2 : Int32)), (.ref b32), (.ref b32)])) rfl (hb hby own_d3_138) rfl (by decide) (cap := 2) (by decide) (by decide) (by decide) (by decide)
        obtain ⟨b34, g34⟩ : ∃ z, z = h32.size := ⟨_, rfl⟩
        rw [← g34] at A34 st34
        have V34 : Arv Z h34 b34 k34 .char (2 : Int32) [(.int (0 : Int32)), (.int (0 : Int32))] (.int (0 : Int32)) := (Arv.new A34 (by decide)).pad (pad_rep [] (.int (0 : Int32)) 2)
        have w35 := w33.ext E34
        refine own_stW (g' := (mkF m 140 #[.val (.ref x), .val (.int n), .val (.int pos), .val (.int mu), .val (.int rep), .val (.int fl), .val (.int r1), .val (.int r3), .val (.int r5), .val (.int r7), .val (.int r9), .val (.int r11), .val (.int r13)] [(.ref b34), (.ref b32), (.ref b32)])) st34 ?_
        refine own_stW (g' := (mkF m 144 #[.val (.ref x), .val (.int n), .val (.int pos), .val (.int mu), .val (.int rep), .val (.int fl), .val (.int r1), .val (.int r3), .val (.int r5), .val (.int r7), .val (.int r9), .val (.int r11), .val (.int r13)] [(.int r1), (.int (0 : Int32)), (.ref b34), (.ref b34), (.ref b32), (.ref b32)])) (fun _ q => XS.dup X34.here hx rfl (hb hby own_d3_140) rfl rfl (XS.iconst X34.here hx rfl (hb hby own_d3_141) (XS.iload X34.here hx rfl (hb hby own_d3_142) rfl (q)))) ?_
        obtain ⟨T36, h36, X36, e36, V36, W36, st36⟩ := own_cast X34 hx w35.2.1 e34 V34 (j := (0 : Int32)) (x := r1) ⟨by decide, by decide⟩ 0 rfl (Nat.le_of_ble_eq_true rfl) (pc := 144) (Ls := #[.val (.ref x), .val (.int n), .val (.int pos), .val (.int mu), .val (.int rep), .val (.int fl), .val (.int r1), .val (.int r3), .val (.int r5), .val (.int r7), .val (.int r9), .val (.int r11), .val (.int r13)]) (rest := [(.ref b34), (.ref b32), (.ref b32)]) (hb hby own_d3_144)
        replace V36 : Arv Z h36 b34 k34 .char (2 : Int32) [(.int d0), (.int (0 : Int32))] (.int (0 : Int32)) := by rw [hd0, ← hr1]; exact V36
        have N36 := Fr.snoc X36 N0 (Nat.le_trans (Nat.le_trans Z0 E32.1) (Nat.le_of_eq g34.symm))
        have w37 := w35.wr W36 (Safe.arv w35.2.1.alike V34 (by simp))
        refine own_stW (g' := (mkF m 145 #[.val (.ref x), .val (.int n), .val (.int pos), .val (.int mu), .val (.int rep), .val (.int fl), .val (.int r1), .val (.int r3), .val (.int r5), .val (.int r7), .val (.int r9), .val (.int r11), .val (.int r13)] [(.ref b34), (.ref b32), (.ref b32)])) st36 ?_
        refine own_stW (g' := (mkF m 149 #[.val (.ref x), .val (.int n), .val (.int pos), .val (.int mu), .val (.int rep), .val (.int fl), .val (.int r1), .val (.int r3), .val (.int r5), .val (.int r7), .val (.int r9), .val (.int r11), .val (.int r13)] [(.int r3), (.int (1 : Int32)), (.ref b34), (.ref b34), (.ref b32), (.ref b32)])) (fun _ q => XS.dup X36.here hx rfl (hb hby own_d3_145) rfl rfl (XS.iconst X36.here hx rfl (hb hby own_d3_146) (XS.iload X36.here hx rfl (hb hby own_d3_147) rfl (q)))) ?_
        obtain ⟨T38, h38, X38, e38, V38, W38, st38⟩ := own_cast X36 hx w37.2.1 e36 V36 (j := (1 : Int32)) (x := r3) ⟨by decide, by decide⟩ 1 rfl (Nat.le_of_ble_eq_true rfl) (pc := 149) (Ls := #[.val (.ref x), .val (.int n), .val (.int pos), .val (.int mu), .val (.int rep), .val (.int fl), .val (.int r1), .val (.int r3), .val (.int r5), .val (.int r7), .val (.int r9), .val (.int r11), .val (.int r13)]) (rest := [(.ref b34), (.ref b32), (.ref b32)]) (hb hby own_d3_149)
        replace V38 : Arv Z h38 b34 k34 .char (2 : Int32) [(.int d0), (.int d1)] (.int (0 : Int32)) := by rw [hd1, ← hr3]; exact V38
        have N38 := Fr.snoc X38 N36 (Nat.le_trans (Nat.le_trans Z0 E32.1) (Nat.le_of_eq g34.symm))
        have w39 := w37.wr W38 (Safe.arv w37.2.1.alike V36 (by simp))
        refine own_stW (g' := (mkF m 150 #[.val (.ref x), .val (.int n), .val (.int pos), .val (.int mu), .val (.int rep), .val (.int fl), .val (.int r1), .val (.int r3), .val (.int r5), .val (.int r7), .val (.int r9), .val (.int r11), .val (.int r13)] [(.ref b34), (.ref b32), (.ref b32)])) st38 ?_
        obtain ⟨_, L40, T40, X40, ⟨rfl, N40q, K40, E40, C40, t40, kb40, u40, v40, w40, F40, A40⟩, st40⟩ := own_cI X38 hx w39.2.1 rfl w39.2.2.1 (hw _ (List.mem_of_getElem? (i := 52) rfl)) (hw _ (List.mem_of_getElem? (i := 53) rfl)) (hw _ (List.mem_of_getElem? (i := 54) rfl)) (by decide) e38 (h := h38) (b := b32) (argsL := [(.ref b34)]) (rest := [(.ref b32)]) (StrChars.Road.backV (s := (s.setVm s.vm)) (W := 1) w39.2.1 hws (kI := 4) (hw _ (List.mem_of_getElem? (i := 2) rfl)) (cs := ([d0, d1] : List Int32)) (bs := (([d0, d1] : List Int32)).map (fun c => c.toInt8.toInt32)) (n := 2) (n0 := n0) (Nat.le_trans Z0 (Nat.le_of_eq g32.symm)) (Nat.le_trans Z0 (Nat.le_trans (Nat.le_trans (Nat.le_trans E32.1 E34.1) (Keep.of_wr W36).1) (Keep.of_wr W38).1)) (((A32.ext E34).wr W36).wr W38) (((F32_value.ext E34).other W36 (Or.inl (Nat.ne_of_lt (Nat.lt_of_lt_of_eq A32.lt g34.symm)))).other W38 (Or.inl (Nat.ne_of_lt (Nat.lt_of_lt_of_eq A32.lt g34.symm)))) (((F32_coder.ext E34).other W36 (Or.inl (Nat.ne_of_lt (Nat.lt_of_lt_of_eq A32.lt g34.symm)))).other W38 (Or.inl (Nat.ne_of_lt (Nat.lt_of_lt_of_eq A32.lt g34.symm)))) V38 (O.ext ((((X00.ext E32).ext E34).wr W36 (Nat.le_trans (Nat.le_trans Z0 E32.1) (Nat.le_of_eq g34.symm))).wr W38 (Nat.le_trans (Nat.le_trans Z0 E32.1) (Nat.le_of_eq g34.symm))).2) hz rfl rfl (by decide) (by decide) (fun c hc => hp c (List.mem_append_left [d2, d3, d4, d5, d6] hc)) rfl (by decide) (by decide)) (pc := 150) (Ls := #[.val (.ref x), .val (.int n), .val (.int pos), .val (.int mu), .val (.int rep), .val (.int fl), .val (.int r1), .val (.int r3), .val (.int r5), .val (.int r7), .val (.int r9), .val (.int r11), .val (.int r13)]) (by rw [hml]; rfl) (lenOf own_pd4 rfl) rfl (Nat.le_of_eq rfl) (hb hby own_d3_150) (by decide) (by decide)
        refine own_stW (g' := (mkF m 153 #[.val (.ref x), .val (.int n), .val (.int pos), .val (.int mu), .val (.int rep), .val (.int fl), .val (.int r1), .val (.int r3), .val (.int r5), .val (.int r7), .val (.int r9), .val (.int r11), .val (.int r13)] [(.ref b32)])) st40 ?_
        have N40 := Fr.app N38 N40q
        have w41 := w39.keep K40 (sfS (Safe.wr W38 (Safe.wr W36 (Safe.ext E34 w33.held (Safe.new (Nat.le_of_eq g34.symm))) w35.held (Safe.ext E34 w33.held (Safe.new (Nat.le_of_eq g34.symm)))) w37.held (Safe.wr W36 (Safe.ext E34 w33.held (Safe.new (Nat.le_of_eq g34.symm))) w35.held (Safe.ext E34 w33.held (Safe.ext E32 W0.held (Safe.new (Nat.le_of_eq g32.symm)))))) sf0)
        exact own_goWR X40 hh w41 hEL rfl hlk hx (t := (.object "java/lang/String")) rfl rfl Bd.returns (hb hby own_d3_153) ⟨N40, ((((((Keep.refl h0 []).ext E32).ext E34).wr W36 (Or.inr (Nat.le_trans E32.1 (Nat.le_of_eq g34.symm)))).wr W38 (Or.inr (Nat.le_trans E32.1 (Nat.le_of_eq g34.symm)))).trans K40 (allS (Or.inr (Nat.le_trans (Nat.le_refl _) (Nat.le_of_eq g32.symm))) all0)), b32, t40, kb40, _, _, rfl, A40.lt, E40, F40, C40, A40, (by rw [own_bs, if_neg hc15, if_neg hc22, if_pos hc31]; exact StrChars.Road.codOf (n := 2) rfl (fun c hc => (hp c (List.mem_append_left [d2, d3, d4, d5, d6] hc)).2))⟩ (by decide) (by decide)
      · -- not: n = (2 : Int32)
        refine own_stW (g' := (mkF m 156 #[.val (.ref x), .val (.int n), .val (.int pos), .val (.int mu), .val (.int rep), .val (.int fl), .val (.int r1), .val (.int r3), .val (.int r5), .val (.int r7), .val (.int r9), .val (.int r11), .val (.int r13)] [(.int (3 : Int32)), (.int n)])) (fun _ q => XS.icmpYes X14.here hx rfl (pc0 := 130) (pc' := 154) rfl (hb hby own_d3_130) rfl (feq hc31).2 (by decide) (by decide) (XS.iloadN X14.here hx rfl (hb hby own_d3_154) rfl (XS.iconst X14.here hx rfl (hb hby own_d3_155) (q)))) ?_
        by_cases hc42 : n = (3 : Int32)
        · -- n = (3 : Int32)
          refine own_stW (g' := (mkF m 159 #[.val (.ref x), .val (.int n), .val (.int pos), .val (.int mu), .val (.int rep), .val (.int fl), .val (.int r1), .val (.int r3), .val (.int r5), .val (.int r7), .val (.int r9), .val (.int r11), .val (.int r13)] [])) (fun _ q => XS.icmpNo X14.here hx rfl (hb hby own_d3_156) rfl (teq hc42).2 (q)) ?_
          obtain ⟨T43, h43, X43, e43, E43, A43, D43, U43, st43⟩ := newO X14 hx W0.2.1 W0.2.2.1 (hw _ (List.mem_of_getElem? (i := 50) rfl)) (hw _ (List.mem_of_getElem? (i := 2) rfl)) (hw _ (List.mem_of_getElem? (i := 1) rfl)) e14 (g := (mkF m 159 #[.val (.ref x), .val (.int n), .val (.int pos), .val (.int mu), .val (.int rep), .val (.int fl), .val (.int r1), .val (.int r3), .val (.int r5), .val (.int r7), .val (.int r9), .val (.int r11), .val (.int r13)] [])) rfl (hb hby own_d3_159) (by decide) (by decide)
          obtain ⟨b43, g43⟩ : ∃ z, z = h0.size := ⟨_, rfl⟩
          rw [← g43] at A43 D43 U43 st43
          have w44 := W0.ext E43
          have F43_value : Fld Z h43 b43 "java/lang/String" "value" "[B" .null := D43 (Or.inr (hw _ (List.mem_of_getElem? (i := 4) rfl))) (ty := (.array .byte)) (by decide)
          have F43_coder : Fld Z h43 b43 "java/lang/String" "coder" "B" (.int (0 : Int32)) := D43 (Or.inr (hw _ (List.mem_of_getElem? (i := 5) rfl))) (ty := .byte) (by decide)
          refine own_stW (g' := (mkF m 162 #[.val (.ref x), .val (.int n), .val (.int pos), .val (.int mu), .val (.int rep), .val (.int fl), .val (.int r1), .val (.int r3), .val (.int r5), .val (.int r7), .val (.int r9), .val (.int r11), .val (.int r13)] [(.ref b43)])) st43 ?_
          refine own_stW (g' := (mkF m 164 #[.val (.ref x), .val (.int n), .val (.int pos), .val (.int mu), .val (.int rep), .val (.int fl), .val (.int r1), .val (.int r3), .val (.int r5), .val (.int r7), .val (.int r9), .val (.int r11), .val (.int r13)] [(.int (3 : Int32)), (.ref b43), (.ref b43)])) (fun _ q => XS.dup X43.here hx rfl (hb hby own_d3_162) rfl rfl (XS.iconst X43.here hx rfl (hb hby own_d3_163) (q))) ?_
          obtain ⟨T45, h45, k45, X45, e45, E45, A45, st45⟩ := newP X43 hx w44.2.1 (hw _ (List.mem_of_getElem? (i := 51) rfl)) e43 (g := (mkF m 164 #[.val (.ref x), .val (.int n), .val (.int pos), .val (.int mu), .val (.int rep), .val (.int fl), .val (.int r1), .val (.int r3), .val (.int r5), .val (.int r7), .val (.int r9), .val (.int r11), .val (.int r13)] [(.int (3 : Int32)), (.ref b43), (.ref b43)])) rfl (hb hby own_d3_164) rfl (by decide) (cap := 3) (by decide) (by decide) (by decide) (by decide)
          obtain ⟨b45, g45⟩ : ∃ z, z = h43.size := ⟨_, rfl⟩
          rw [← g45] at A45 st45
          have V45 : Arv Z h45 b45 k45 .char (3 : Int32) [(.int (0 : Int32)), (.int (0 : Int32)), (.int (0 : Int32))] (.int (0 : Int32)) := (Arv.new A45 (by decide)).pad (pad_rep [] (.int (0 : Int32)) 3)
          have w46 := w44.ext E45
          refine own_stW (g' := (mkF m 166 #[.val (.ref x), .val (.int n), .val (.int pos), .val (.int mu), .val (.int rep), .val (.int fl), .val (.int r1), .val (.int r3), .val (.int r5), .val (.int r7), .val (.int r9), .val (.int r11), .val (.int r13)] [(.ref b45), (.ref b43), (.ref b43)])) st45 ?_
          refine own_stW (g' := (mkF m 170 #[.val (.ref x), .val (.int n), .val (.int pos), .val (.int mu), .val (.int rep), .val (.int fl), .val (.int r1), .val (.int r3), .val (.int r5), .val (.int r7), .val (.int r9), .val (.int r11), .val (.int r13)] [(.int r1), (.int (0 : Int32)), (.ref b45), (.ref b45), (.ref b43), (.ref b43)])) (fun _ q => XS.dup X45.here hx rfl (hb hby own_d3_166) rfl rfl (XS.iconst X45.here hx rfl (hb hby own_d3_167) (XS.iload X45.here hx rfl (hb hby own_d3_168) rfl (q)))) ?_
          obtain ⟨T47, h47, X47, e47, V47, W47, st47⟩ := own_cast X45 hx w46.2.1 e45 V45 (j := (0 : Int32)) (x := r1) ⟨by decide, by decide⟩ 0 rfl (Nat.le_of_ble_eq_true rfl) (pc := 170) (Ls := #[.val (.ref x), .val (.int n), .val (.int pos), .val (.int mu), .val (.int rep), .val (.int fl), .val (.int r1), .val (.int r3), .val (.int r5), .val (.int r7), .val (.int r9), .val (.int r11), .val (.int r13)]) (rest := [(.ref b45), (.ref b43), (.ref b43)]) (hb hby own_d3_170)
          replace V47 : Arv Z h47 b45 k45 .char (3 : Int32) [(.int d0), (.int (0 : Int32)), (.int (0 : Int32))] (.int (0 : Int32)) := by rw [hd0, ← hr1]; exact V47
          have N47 := Fr.snoc X47 N0 (Nat.le_trans (Nat.le_trans Z0 E43.1) (Nat.le_of_eq g45.symm))
          have w48 := w46.wr W47 (Safe.arv w46.2.1.alike V45 (by simp))
          refine own_stW (g' := (mkF m 171 #[.val (.ref x), .val (.int n), .val (.int pos), .val (.int mu), .val (.int rep), .val (.int fl), .val (.int r1), .val (.int r3), .val (.int r5), .val (.int r7), .val (.int r9), .val (.int r11), .val (.int r13)] [(.ref b45), (.ref b43), (.ref b43)])) st47 ?_
          refine own_stW (g' := (mkF m 175 #[.val (.ref x), .val (.int n), .val (.int pos), .val (.int mu), .val (.int rep), .val (.int fl), .val (.int r1), .val (.int r3), .val (.int r5), .val (.int r7), .val (.int r9), .val (.int r11), .val (.int r13)] [(.int r3), (.int (1 : Int32)), (.ref b45), (.ref b45), (.ref b43), (.ref b43)])) (fun _ q => XS.dup X47.here hx rfl (hb hby own_d3_171) rfl rfl (XS.iconst X47.here hx rfl (hb hby own_d3_172) (XS.iload X47.here hx rfl (hb hby own_d3_173) rfl (q)))) ?_
          obtain ⟨T49, h49, X49, e49, V49, W49, st49⟩ := own_cast X47 hx w48.2.1 e47 V47 (j := (1 : Int32)) (x := r3) ⟨by decide, by decide⟩ 1 rfl (Nat.le_of_ble_eq_true rfl) (pc := 175) (Ls := #[.val (.ref x), .val (.int n), .val (.int pos), .val (.int mu), .val (.int rep), .val (.int fl), .val (.int r1), .val (.int r3), .val (.int r5), .val (.int r7), .val (.int r9), .val (.int r11), .val (.int r13)]) (rest := [(.ref b45), (.ref b43), (.ref b43)]) (hb hby own_d3_175)
          replace V49 : Arv Z h49 b45 k45 .char (3 : Int32) [(.int d0), (.int d1), (.int (0 : Int32))] (.int (0 : Int32)) := by rw [hd1, ← hr3]; exact V49
          have N49 := Fr.snoc X49 N47 (Nat.le_trans (Nat.le_trans Z0 E43.1) (Nat.le_of_eq g45.symm))
          have w50 := w48.wr W49 (Safe.arv w48.2.1.alike V47 (by simp))
          refine own_stW (g' := (mkF m 176 #[.val (.ref x), .val (.int n), .val (.int pos), .val (.int mu), .val (.int rep), .val (.int fl), .val (.int r1), .val (.int r3), .val (.int r5), .val (.int r7), .val (.int r9), .val (.int r11), .val (.int r13)] [(.ref b45), (.ref b43), (.ref b43)])) st49 ?_
          refine own_stW (g' := (mkF m 180 #[.val (.ref x), .val (.int n), .val (.int pos), .val (.int mu), .val (.int rep), .val (.int fl), .val (.int r1), .val (.int r3), .val (.int r5), .val (.int r7), .val (.int r9), .val (.int r11), .val (.int r13)] [(.int r5), (.int (2 : Int32)), (.ref b45), (.ref b45), (.ref b43), (.ref b43)])) (fun _ q => XS.dup X49.here hx rfl (hb hby own_d3_176) rfl rfl (XS.iconst X49.here hx rfl (hb hby own_d3_177) (XS.iload X49.here hx rfl (hb hby own_d3_178) rfl (q)))) ?_
          obtain ⟨T51, h51, X51, e51, V51, W51, st51⟩ := own_cast X49 hx w50.2.1 e49 V49 (j := (2 : Int32)) (x := r5) ⟨by decide, by decide⟩ 2 rfl (Nat.le_of_ble_eq_true rfl) (pc := 180) (Ls := #[.val (.ref x), .val (.int n), .val (.int pos), .val (.int mu), .val (.int rep), .val (.int fl), .val (.int r1), .val (.int r3), .val (.int r5), .val (.int r7), .val (.int r9), .val (.int r11), .val (.int r13)]) (rest := [(.ref b45), (.ref b43), (.ref b43)]) (hb hby own_d3_180)
          replace V51 : Arv Z h51 b45 k45 .char (3 : Int32) [(.int d0), (.int d1), (.int d2)] (.int (0 : Int32)) := by rw [hd2, ← hr5]; exact V51
          have N51 := Fr.snoc X51 N49 (Nat.le_trans (Nat.le_trans Z0 E43.1) (Nat.le_of_eq g45.symm))
          have w52 := w50.wr W51 (Safe.arv w50.2.1.alike V49 (by simp))
          refine own_stW (g' := (mkF m 181 #[.val (.ref x), .val (.int n), .val (.int pos), .val (.int mu), .val (.int rep), .val (.int fl), .val (.int r1), .val (.int r3), .val (.int r5), .val (.int r7), .val (.int r9), .val (.int r11), .val (.int r13)] [(.ref b45), (.ref b43), (.ref b43)])) st51 ?_
          obtain ⟨_, L53, T53, X53, ⟨rfl, N53q, K53, E53, C53, t53, kb53, u53, v53, w53, F53, A53⟩, st53⟩ := own_cI X51 hx w52.2.1 rfl w52.2.2.1 (hw _ (List.mem_of_getElem? (i := 52) rfl)) (hw _ (List.mem_of_getElem? (i := 53) rfl)) (hw _ (List.mem_of_getElem? (i := 54) rfl)) (by decide) e51 (h := h51) (b := b43) (argsL := [(.ref b45)]) (rest := [(.ref b43)]) (StrChars.Road.backV (s := (s.setVm s.vm)) (W := 1) w52.2.1 hws (kI := 4) (hw _ (List.mem_of_getElem? (i := 2) rfl)) (cs := ([d0, d1, d2] : List Int32)) (bs := (([d0, d1, d2] : List Int32)).map (fun c => c.toInt8.toInt32)) (n := 3) (n0 := n0) (Nat.le_trans Z0 (Nat.le_of_eq g43.symm)) (Nat.le_trans Z0 (Nat.le_trans (Nat.le_trans (Nat.le_trans (Nat.le_trans E43.1 E45.1) (Keep.of_wr W47).1) (Keep.of_wr W49).1) (Keep.of_wr W51).1)) ((((A43.ext E45).wr W47).wr W49).wr W51) ((((F43_value.ext E45).other W47 (Or.inl (Nat.ne_of_lt (Nat.lt_of_lt_of_eq A43.lt g45.symm)))).other W49 (Or.inl (Nat.ne_of_lt (Nat.lt_of_lt_of_eq A43.lt g45.symm)))).other W51 (Or.inl (Nat.ne_of_lt (Nat.lt_of_lt_of_eq A43.lt g45.symm)))) ((((F43_coder.ext E45).other W47 (Or.inl (Nat.ne_of_lt (Nat.lt_of_lt_of_eq A43.lt g45.symm)))).other W49 (Or.inl (Nat.ne_of_lt (Nat.lt_of_lt_of_eq A43.lt g45.symm)))).other W51 (Or.inl (Nat.ne_of_lt (Nat.lt_of_lt_of_eq A43.lt g45.symm)))) V51 (O.ext (((((X00.ext E43).ext E45).wr W47 (Nat.le_trans (Nat.le_trans Z0 E43.1) (Nat.le_of_eq g45.symm))).wr W49 (Nat.le_trans (Nat.le_trans Z0 E43.1) (Nat.le_of_eq g45.symm))).wr W51 (Nat.le_trans (Nat.le_trans Z0 E43.1) (Nat.le_of_eq g45.symm))).2) hz rfl rfl (by decide) (by decide) (fun c hc => hp c (List.mem_append_left [d3, d4, d5, d6] hc)) rfl (by decide) (by decide)) (pc := 181) (Ls := #[.val (.ref x), .val (.int n), .val (.int pos), .val (.int mu), .val (.int rep), .val (.int fl), .val (.int r1), .val (.int r3), .val (.int r5), .val (.int r7), .val (.int r9), .val (.int r11), .val (.int r13)]) (by rw [hml]; rfl) (lenOf own_pd4 rfl) rfl (Nat.le_of_eq rfl) (hb hby own_d3_181) (by decide) (by decide)
          refine own_stW (g' := (mkF m 184 #[.val (.ref x), .val (.int n), .val (.int pos), .val (.int mu), .val (.int rep), .val (.int fl), .val (.int r1), .val (.int r3), .val (.int r5), .val (.int r7), .val (.int r9), .val (.int r11), .val (.int r13)] [(.ref b43)])) st53 ?_
          have N53 := Fr.app N51 N53q
          have w54 := w52.keep K53 (sfS (Safe.wr W51 (Safe.wr W49 (Safe.wr W47 (Safe.ext E45 w44.held (Safe.new (Nat.le_of_eq g45.symm))) w46.held (Safe.ext E45 w44.held (Safe.new (Nat.le_of_eq g45.symm)))) w48.held (Safe.wr W47 (Safe.ext E45 w44.held (Safe.new (Nat.le_of_eq g45.symm))) w46.held (Safe.ext E45 w44.held (Safe.new (Nat.le_of_eq g45.symm))))) w50.held (Safe.wr W49 (Safe.wr W47 (Safe.ext E45 w44.held (Safe.new (Nat.le_of_eq g45.symm))) w46.held (Safe.ext E45 w44.held (Safe.new (Nat.le_of_eq g45.symm)))) w48.held (Safe.wr W47 (Safe.ext E45 w44.held (Safe.new (Nat.le_of_eq g45.symm))) w46.held (Safe.ext E45 w44.held (Safe.ext E43 W0.held (Safe.new (Nat.le_of_eq g43.symm))))))) sf0)
          exact own_goWR X53 hh w54 hEL rfl hlk hx (t := (.object "java/lang/String")) rfl rfl Bd.returns (hb hby own_d3_184) ⟨N53, (((((((Keep.refl h0 []).ext E43).ext E45).wr W47 (Or.inr (Nat.le_trans E43.1 (Nat.le_of_eq g45.symm)))).wr W49 (Or.inr (Nat.le_trans E43.1 (Nat.le_of_eq g45.symm)))).wr W51 (Or.inr (Nat.le_trans E43.1 (Nat.le_of_eq g45.symm)))).trans K53 (allS (Or.inr (Nat.le_trans (Nat.le_refl _) (Nat.le_of_eq g43.symm))) all0)), b43, t53, kb53, _, _, rfl, A53.lt, E53, F53, C53, A53, (by rw [own_bs, if_neg hc15, if_neg hc22, if_neg hc31, if_pos hc42]; exact StrChars.Road.codOf (n := 3) rfl (fun c hc => (hp c (List.mem_append_left [d3, d4, d5, d6] hc)).2))⟩ (by decide) (by decide)
        · -- not: n = (3 : Int32)
          refine own_stW (g' := (mkF m 187 #[.val (.ref x), .val (.int n), .val (.int pos), .val (.int mu), .val (.int rep), .val (.int fl), .val (.int r1), .val (.int r3), .val (.int r5), .val (.int r7), .val (.int r9), .val (.int r11), .val (.int r13)] [(.int (4 : Int32)), (.int n)])) (fun _ q => XS.icmpYes X14.here hx rfl (pc0 := 156) (pc' := 185) rfl (hb hby own_d3_156) rfl (feq hc42).2 (by decide) (by decide) (XS.iloadN X14.here hx rfl (hb hby own_d3_185) rfl (XS.iconst X14.here hx rfl (hb hby own_d3_186) (q)))) ?_
          by_cases hc55 : n = (4 : Int32)
          · -- n = (4 : Int32)
            refine own_stW (g' := (mkF m 190 #[.val (.ref x), .val (.int n), .val (.int pos), .val (.int mu), .val (.int rep), .val (.int fl), .val (.int r1), .val (.int r3), .val (.int r5), .val (.int r7), .val (.int r9), .val (.int r11), .val (.int r13)] [])) (fun _ q => XS.icmpNo X14.here hx rfl (hb hby own_d3_187) rfl (teq hc55).2 (q)) ?_
            obtain ⟨T56, h56, X56, e56, E56, A56, D56, U56, st56⟩ := newO X14 hx W0.2.1 W0.2.2.1 (hw _ (List.mem_of_getElem? (i := 50) rfl)) (hw _ (List.mem_of_getElem? (i := 2) rfl)) (hw _ (List.mem_of_getElem? (i := 1) rfl)) e14 (g := (mkF m 190 #[.val (.ref x), .val (.int n), .val (.int pos), .val (.int mu), .val (.int rep), .val (.int fl), .val (.int r1), .val (.int r3), .val (.int r5), .val (.int r7), .val (.int r9), .val (.int r11), .val (.int r13)] [])) rfl (hb hby own_d3_190) (by decide) (by decide)
            obtain ⟨b56, g56⟩ : ∃ z, z = h0.size := ⟨_, rfl⟩
            rw [← g56] at A56 D56 U56 st56
            have w57 := W0.ext E56
            have F56_value : Fld Z h56 b56 "java/lang/String" "value" "[B" .null := D56 (Or.inr (hw _ (List.mem_of_getElem? (i := 4) rfl))) (ty := (.array .byte)) (by decide)
            have F56_coder : Fld Z h56 b56 "java/lang/String" "coder" "B" (.int (0 : Int32)) := D56 (Or.inr (hw _ (List.mem_of_getElem? (i := 5) rfl))) (ty := .byte) (by decide)
            refine own_stW (g' := (mkF m 193 #[.val (.ref x), .val (.int n), .val (.int pos), .val (.int mu), .val (.int rep), .val (.int fl), .val (.int r1), .val (.int r3), .val (.int r5), .val (.int r7), .val (.int r9), .val (.int r11), .val (.int r13)] [(.ref b56)])) st56 ?_
            refine own_stW (g' := (mkF m 195 #[.val (.ref x), .val (.int n), .val (.int pos), .val (.int mu), .val (.int rep), .val (.int fl), .val (.int r1), .val (.int r3), .val (.int r5), .val (.int r7), .val (.int r9), .val (.int r11), .val (.int r13)] [(.int (4 : Int32)), (.ref b56), (.ref b56)])) (fun _ q => XS.dup X56.here hx rfl (hb hby own_d3_193) rfl rfl (XS.iconst X56.here hx rfl (hb hby own_d3_194) (q))) ?_
            obtain ⟨T58, h58, k58, X58, e58, E58, A58, st58⟩ := newP X56 hx w57.2.1 (hw _ (List.mem_of_getElem? (i := 51) rfl)) e56 (g := (mkF m 195 #[.val (.ref x), .val (.int n), .val (.int pos), .val (.int mu), .val (.int rep), .val (.int fl), .val (.int r1), .val (.int r3), .val (.int r5), .val (.int r7), .val (.int r9), .val (.int r11), .val (.int r13)] [(.int (4 : Int32)), (.ref b56), (.ref b56)])) rfl (hb hby own_d3_195) rfl (by decide) (cap := 4) (by decide) (by decide) (by decide) (by decide)
            obtain ⟨b58, g58⟩ : ∃ z, z = h56.size := ⟨_, rfl⟩
            rw [← g58] at A58 st58
            have V58 : Arv Z h58 b58 k58 .char (4 : Int32) [(.int (0 : Int32)), (.int (0 : Int32)), (.int (0 : Int32)), (.int (0 : Int32))] (.int (0 : Int32)) := (Arv.new A58 (by decide)).pad (pad_rep [] (.int (0 : Int32)) 4)
            have w59 := w57.ext E58
            refine own_stW (g' := (mkF m 197 #[.val (.ref x), .val (.int n), .val (.int pos), .val (.int mu), .val (.int rep), .val (.int fl), .val (.int r1), .val (.int r3), .val (.int r5), .val (.int r7), .val (.int r9), .val (.int r11), .val (.int r13)] [(.ref b58), (.ref b56), (.ref b56)])) st58 ?_
            refine own_stW (g' := (mkF m 201 #[.val (.ref x), .val (.int n), .val (.int pos), .val (.int mu), .val (.int rep), .val (.int fl), .val (.int r1), .val (.int r3), .val (.int r5), .val (.int r7), .val (.int r9), .val (.int r11), .val (.int r13)] [(.int r1), (.int (0 : Int32)), (.ref b58), (.ref b58), (.ref b56), (.ref b56)])) (fun _ q => XS.dup X58.here hx rfl (hb hby own_d3_197) rfl rfl (XS.iconst X58.here hx rfl (hb hby own_d3_198) (XS.iload X58.here hx rfl (hb hby own_d3_199) rfl (q)))) ?_
            obtain ⟨T60, h60, X60, e60, V60, W60, st60⟩ := own_cast X58 hx w59.2.1 e58 V58 (j := (0 : Int32)) (x := r1) ⟨by decide, by decide⟩ 0 rfl (Nat.le_of_ble_eq_true rfl) (pc := 201) (Ls := #[.val (.ref x), .val (.int n), .val (.int pos), .val (.int mu), .val (.int rep), .val (.int fl), .val (.int r1), .val (.int r3), .val (.int r5), .val (.int r7), .val (.int r9), .val (.int r11), .val (.int r13)]) (rest := [(.ref b58), (.ref b56), (.ref b56)]) (hb hby own_d3_201)
            replace V60 : Arv Z h60 b58 k58 .char (4 : Int32) [(.int d0), (.int (0 : Int32)), (.int (0 : Int32)), (.int (0 : Int32))] (.int (0 : Int32)) := by rw [hd0, ← hr1]; exact V60
            have N60 := Fr.snoc X60 N0 (Nat.le_trans (Nat.le_trans Z0 E56.1) (Nat.le_of_eq g58.symm))
            have w61 := w59.wr W60 (Safe.arv w59.2.1.alike V58 (by simp))
            refine own_stW (g' := (mkF m 202 #[.val (.ref x), .val (.int n), .val (.int pos), .val (.int mu), .val (.int rep), .val (.int fl), .val (.int r1), .val (.int r3), .val (.int r5), .val (.int r7), .val (.int r9), .val (.int r11), .val (.int r13)] [(.ref b58), (.ref b56), (.ref b56)])) st60 ?_
            refine own_stW (g' := (mkF m 206 #[.val (.ref x), .val (.int n), .val (.int pos), .val (.int mu), .val (.int rep), .val (.int fl), .val (.int r1), .val (.int r3), .val (.int r5), .val (.int r7), .val (.int r9), .val (.int r11), .val (.int r13)] [(.int r3), (.int (1 : Int32)), (.ref b58), (.ref b58), (.ref b56), (.ref b56)])) (fun _ q => XS.dup X60.here hx rfl (hb hby own_d3_202) rfl rfl (XS.iconst X60.here hx rfl (hb hby own_d3_203) (XS.iload X60.here hx rfl (hb hby own_d3_204) rfl (q)))) ?_
            obtain ⟨T62, h62, X62, e62, V62, W62, st62⟩ := own_cast X60 hx w61.2.1 e60 V60 (j := (1 : Int32)) (x := r3) ⟨by decide, by decide⟩ 1 rfl (Nat.le_of_ble_eq_true rfl) (pc := 206) (Ls := #[.val (.ref x), .val (.int n), .val (.int pos), .val (.int mu), .val (.int rep), .val (.int fl), .val (.int r1), .val (.int r3), .val (.int r5), .val (.int r7), .val (.int r9), .val (.int r11), .val (.int r13)]) (rest := [(.ref b58), (.ref b56), (.ref b56)]) (hb hby own_d3_206)
            replace V62 : Arv Z h62 b58 k58 .char (4 : Int32) [(.int d0), (.int d1), (.int (0 : Int32)), (.int (0 : Int32))] (.int (0 : Int32)) := by rw [hd1, ← hr3]; exact V62
            have N62 := Fr.snoc X62 N60 (Nat.le_trans (Nat.le_trans Z0 E56.1) (Nat.le_of_eq g58.symm))
            have w63 := w61.wr W62 (Safe.arv w61.2.1.alike V60 (by simp))
            refine own_stW (g' := (mkF m 207 #[.val (.ref x), .val (.int n), .val (.int pos), .val (.int mu), .val (.int rep), .val (.int fl), .val (.int r1), .val (.int r3), .val (.int r5), .val (.int r7), .val (.int r9), .val (.int r11), .val (.int r13)] [(.ref b58), (.ref b56), (.ref b56)])) st62 ?_
            refine own_stW (g' := (mkF m 211 #[.val (.ref x), .val (.int n), .val (.int pos), .val (.int mu), .val (.int rep), .val (.int fl), .val (.int r1), .val (.int r3), .val (.int r5), .val (.int r7), .val (.int r9), .val (.int r11), .val (.int r13)] [(.int r5), (.int (2 : Int32)), (.ref b58), (.ref b58), (.ref b56), (.ref b56)])) (fun _ q => XS.dup X62.here hx rfl (hb hby own_d3_207) rfl rfl (XS.iconst X62.here hx rfl (hb hby own_d3_208) (XS.iload X62.here hx rfl (hb hby own_d3_209) rfl (q)))) ?_
            obtain ⟨T64, h64, X64, e64, V64, W64, st64⟩ := own_cast X62 hx w63.2.1 e62 V62 (j := (2 : Int32)) (x := r5) ⟨by decide, by decide⟩ 2 rfl (Nat.le_of_ble_eq_true rfl) (pc := 211) (Ls := #[.val (.ref x), .val (.int n), .val (.int pos), .val (.int mu), .val (.int rep), .val (.int fl), .val (.int r1), .val (.int r3), .val (.int r5), .val (.int r7), .val (.int r9), .val (.int r11), .val (.int r13)]) (rest := [(.ref b58), (.ref b56), (.ref b56)]) (hb hby own_d3_211)
            replace V64 : Arv Z h64 b58 k58 .char (4 : Int32) [(.int d0), (.int d1), (.int d2), (.int (0 : Int32))] (.int (0 : Int32)) := by rw [hd2, ← hr5]; exact V64
            have N64 := Fr.snoc X64 N62 (Nat.le_trans (Nat.le_trans Z0 E56.1) (Nat.le_of_eq g58.symm))
            have w65 := w63.wr W64 (Safe.arv w63.2.1.alike V62 (by simp))
            refine own_stW (g' := (mkF m 212 #[.val (.ref x), .val (.int n), .val (.int pos), .val (.int mu), .val (.int rep), .val (.int fl), .val (.int r1), .val (.int r3), .val (.int r5), .val (.int r7), .val (.int r9), .val (.int r11), .val (.int r13)] [(.ref b58), (.ref b56), (.ref b56)])) st64 ?_
            refine own_stW (g' := (mkF m 216 #[.val (.ref x), .val (.int n), .val (.int pos), .val (.int mu), .val (.int rep), .val (.int fl), .val (.int r1), .val (.int r3), .val (.int r5), .val (.int r7), .val (.int r9), .val (.int r11), .val (.int r13)] [(.int r7), (.int (3 : Int32)), (.ref b58), (.ref b58), (.ref b56), (.ref b56)])) (fun _ q => XS.dup X64.here hx rfl (hb hby own_d3_212) rfl rfl (XS.iconst X64.here hx rfl (hb hby own_d3_213) (XS.iload X64.here hx rfl (hb hby own_d3_214) rfl (q)))) ?_
            obtain ⟨T66, h66, X66, e66, V66, W66, st66⟩ := own_cast X64 hx w65.2.1 e64 V64 (j := (3 : Int32)) (x := r7) ⟨by decide, by decide⟩ 3 rfl (Nat.le_of_ble_eq_true rfl) (pc := 216) (Ls := #[.val (.ref x), .val (.int n), .val (.int pos), .val (.int mu), .val (.int rep), .val (.int fl), .val (.int r1), .val (.int r3), .val (.int r5), .val (.int r7), .val (.int r9), .val (.int r11), .val (.int r13)]) (rest := [(.ref b58), (.ref b56), (.ref b56)]) (hb hby own_d3_216)
            replace V66 : Arv Z h66 b58 k58 .char (4 : Int32) [(.int d0), (.int d1), (.int d2), (.int d3)] (.int (0 : Int32)) := by rw [hd3, ← hr7]; exact V66
            have N66 := Fr.snoc X66 N64 (Nat.le_trans (Nat.le_trans Z0 E56.1) (Nat.le_of_eq g58.symm))
            have w67 := w65.wr W66 (Safe.arv w65.2.1.alike V64 (by simp))
            refine own_stW (g' := (mkF m 217 #[.val (.ref x), .val (.int n), .val (.int pos), .val (.int mu), .val (.int rep), .val (.int fl), .val (.int r1), .val (.int r3), .val (.int r5), .val (.int r7), .val (.int r9), .val (.int r11), .val (.int r13)] [(.ref b58), (.ref b56), (.ref b56)])) st66 ?_
            obtain ⟨_, L68, T68, X68, ⟨rfl, N68q, K68, E68, C68, t68, kb68, u68, v68, w68, F68, A68⟩, st68⟩ := own_cI X66 hx w67.2.1 rfl w67.2.2.1 (hw _ (List.mem_of_getElem? (i := 52) rfl)) (hw _ (List.mem_of_getElem? (i := 53) rfl)) (hw _ (List.mem_of_getElem? (i := 54) rfl)) (by decide) e66 (h := h66) (b := b56) (argsL := [(.ref b58)]) (rest := [(.ref b56)]) (StrChars.Road.backV (s := (s.setVm s.vm)) (W := 1) w67.2.1 hws (kI := 4) (hw _ (List.mem_of_getElem? (i := 2) rfl)) (cs := ([d0, d1, d2, d3] : List Int32)) (bs := (([d0, d1, d2, d3] : List Int32)).map (fun c => c.toInt8.toInt32)) (n := 4) (n0 := n0) (Nat.le_trans Z0 (Nat.le_of_eq g56.symm)) (Nat.le_trans Z0 (Nat.le_trans (Nat.le_trans (Nat.le_trans (Nat.le_trans (Nat.le_trans E56.1 E58.1) (Keep.of_wr W60).1) (Keep.of_wr W62).1) (Keep.of_wr W64).1) (Keep.of_wr W66).1)) (((((A56.ext E58).wr W60).wr W62).wr W64).wr W66) (((((F56_value.ext E58).other W60 (Or.inl (Nat.ne_of_lt (Nat.lt_of_lt_of_eq A56.lt g58.symm)))).other W62 (Or.inl (Nat.ne_of_lt (Nat.lt_of_lt_of_eq A56.lt g58.symm)))).other W64 (Or.inl (Nat.ne_of_lt (Nat.lt_of_lt_of_eq A56.lt g58.symm)))).other W66 (Or.inl (Nat.ne_of_lt (Nat.lt_of_lt_of_eq A56.lt g58.symm)))) (((((F56_coder.ext E58).other W60 (Or.inl (Nat.ne_of_lt (Nat.lt_of_lt_of_eq A56.lt g58.symm)))).other W62 (Or.inl (Nat.ne_of_lt (Nat.lt_of_lt_of_eq A56.lt g58.symm)))).other W64 (Or.inl (Nat.ne_of_lt (Nat.lt_of_lt_of_eq A56.lt g58.symm)))).other W66 (Or.inl (Nat.ne_of_lt (Nat.lt_of_lt_of_eq A56.lt g58.symm)))) V66 (O.ext ((((((X00.ext E56).ext E58).wr W60 (Nat.le_trans (Nat.le_trans Z0 E56.1) (Nat.le_of_eq g58.symm))).wr W62 (Nat.le_trans (Nat.le_trans Z0 E56.1) (Nat.le_of_eq g58.symm))).wr W64 (Nat.le_trans (Nat.le_trans Z0 E56.1) (Nat.le_of_eq g58.symm))).wr W66 (Nat.le_trans (Nat.le_trans Z0 E56.1) (Nat.le_of_eq g58.symm))).2) hz rfl rfl (by decide) (by decide) (fun c hc => hp c (List.mem_append_left [d4, d5, d6] hc)) rfl (by decide) (by decide)) (pc := 217) (Ls := #[.val (.ref x), .val (.int n), .val (.int pos), .val (.int mu), .val (.int rep), .val (.int fl), .val (.int r1), .val (.int r3), .val (.int r5), .val (.int r7), .val (.int r9), .val (.int r11), .val (.int r13)]) (by rw [hml]; rfl) (lenOf own_pd4 rfl) rfl (Nat.le_of_eq rfl) (hb hby own_d3_217) (by decide) (by decide)
            refine own_stW (g' := (mkF m 220 #[.val (.ref x), .val (.int n), .val (.int pos), .val (.int mu), .val (.int rep), .val (.int fl), .val (.int r1), .val (.int r3), .val (.int r5), .val (.int r7), .val (.int r9), .val (.int r11), .val (.int r13)] [(.ref b56)])) st68 ?_
            have N68 := Fr.app N66 N68q
            have w69 := w67.keep K68 (sfS (Safe.wr W66 (Safe.wr W64 (Safe.wr W62 (Safe.wr W60 (Safe.ext E58 w57.held (Safe.new (Nat.le_of_eq g58.symm))) w59.held (Safe.ext E58 w57.held (Safe.new (Nat.le_of_eq g58.symm)))) w61.held (Safe.wr W60 (Safe.ext E58 w57.held (Safe.new (Nat.le_of_eq g58.symm))) w59.held (Safe.ext E58 w57.held (Safe.new (Nat.le_of_eq g58.symm))))) w63.held (Safe.wr W62 (Safe.wr W60 (Safe.ext E58 w57.held (Safe.new (Nat.le_of_eq g58.symm))) w59.held (Safe.ext E58 w57.held (Safe.new (Nat.le_of_eq g58.symm)))) w61.held (Safe.wr W60 (Safe.ext E58 w57.held (Safe.new (Nat.le_of_eq g58.symm))) w59.held (Safe.ext E58 w57.held (Safe.new (Nat.le_of_eq g58.symm)))))) w65.held (Safe.wr W64 (Safe.wr W62 (Safe.wr W60 (Safe.ext E58 w57.held (Safe.new (Nat.le_of_eq g58.symm))) w59.held (Safe.ext E58 w57.held (Safe.new (Nat.le_of_eq g58.symm)))) w61.held (Safe.wr W60 (Safe.ext E58 w57.held (Safe.new (Nat.le_of_eq g58.symm))) w59.held (Safe.ext E58 w57.held (Safe.new (Nat.le_of_eq g58.symm))))) w63.held (Safe.wr W62 (Safe.wr W60 (Safe.ext E58 w57.held (Safe.new (Nat.le_of_eq g58.symm))) w59.held (Safe.ext E58 w57.held (Safe.new (Nat.le_of_eq g58.symm)))) w61.held (Safe.wr W60 (Safe.ext E58 w57.held (Safe.new (Nat.le_of_eq g58.symm))) w59.held (Safe.ext E58 w57.held (Safe.ext E56 W0.held (Safe.new (Nat.le_of_eq g56.symm)))))))) sf0)
            exact own_goWR X68 hh w69 hEL rfl hlk hx (t := (.object "java/lang/String")) rfl rfl Bd.returns (hb hby own_d3_220) ⟨N68, ((((((((Keep.refl h0 []).ext E56).ext E58).wr W60 (Or.inr (Nat.le_trans E56.1 (Nat.le_of_eq g58.symm)))).wr W62 (Or.inr (Nat.le_trans E56.1 (Nat.le_of_eq g58.symm)))).wr W64 (Or.inr (Nat.le_trans E56.1 (Nat.le_of_eq g58.symm)))).wr W66 (Or.inr (Nat.le_trans E56.1 (Nat.le_of_eq g58.symm)))).trans K68 (allS (Or.inr (Nat.le_trans (Nat.le_refl _) (Nat.le_of_eq g56.symm))) all0)), b56, t68, kb68, _, _, rfl, A68.lt, E68, F68, C68, A68, (by rw [own_bs, if_neg hc15, if_neg hc22, if_neg hc31, if_neg hc42, if_pos hc55]; exact StrChars.Road.codOf (n := 4) rfl (fun c hc => (hp c (List.mem_append_left [d4, d5, d6] hc)).2))⟩ (by decide) (by decide)
          · -- not: n = (4 : Int32)
            refine own_stW (g' := (mkF m 223 #[.val (.ref x), .val (.int n), .val (.int pos), .val (.int mu), .val (.int rep), .val (.int fl), .val (.int r1), .val (.int r3), .val (.int r5), .val (.int r7), .val (.int r9), .val (.int r11), .val (.int r13)] [(.int (5 : Int32)), (.int n)])) (fun _ q => XS.icmpYes X14.here hx rfl (pc0 := 187) (pc' := 221) rfl (hb hby own_d3_187) rfl (feq hc55).2 (by decide) (by decide) (XS.iloadN X14.here hx rfl (hb hby own_d3_221) rfl (XS.iconst X14.here hx rfl (hb hby own_d3_222) (q)))) ?_
            by_cases hc70 : n = (5 : Int32)
            · -- n = (5 : Int32)
              refine own_stW (g' := (mkF m 226 #[.val (.ref x), .val (.int n), .val (.int pos), .val (.int mu), .val (.int rep), .val (.int fl), .val (.int r1), .val (.int r3), .val (.int r5), .val (.int r7), .val (.int r9), .val (.int r11), .val (.int r13)] [])) (fun _ q => XS.icmpNo X14.here hx rfl (hb hby own_d3_223) rfl (teq hc70).2 (q)) ?_
              obtain ⟨T71, h71, X71, e71, E71, A71, D71, U71, st71⟩ := newO X14 hx W0.2.1 W0.2.2.1 (hw _ (List.mem_of_getElem? (i := 50) rfl)) (hw _ (List.mem_of_getElem? (i := 2) rfl)) (hw _ (List.mem_of_getElem? (i := 1) rfl)) e14 (g := (mkF m 226 #[.val (.ref x), .val (.int n), .val (.int pos), .val (.int mu), .val (.int rep), .val (.int fl), .val (.int r1), .val (.int r3), .val (.int r5), .val (.int r7), .val (.int r9), .val (.int r11), .val (.int r13)] [])) rfl (hb hby own_d3_226) (by decide) (by decide)
              obtain ⟨b71, g71⟩ : ∃ z, z = h0.size := ⟨_, rfl⟩
              rw [← g71] at A71 D71 U71 st71
              have w72 := W0.ext E71
              have F71_value : Fld Z h71 b71 "java/lang/String" "value" "[B" .null := D71 (Or.inr (hw _ (List.mem_of_getElem? (i := 4) rfl))) (ty := (.array .byte)) (by decide)
              have F71_coder : Fld Z h71 b71 "java/lang/String" "coder" "B" (.int (0 : Int32)) := D71 (Or.inr (hw _ (List.mem_of_getElem? (i := 5) rfl))) (ty := .byte) (by decide)
              refine own_stW (g' := (mkF m 229 #[.val (.ref x), .val (.int n), .val (.int pos), .val (.int mu), .val (.int rep), .val (.int fl), .val (.int r1), .val (.int r3), .val (.int r5), .val (.int r7), .val (.int r9), .val (.int r11), .val (.int r13)] [(.ref b71)])) st71 ?_
              refine own_stW (g' := (mkF m 231 #[.val (.ref x), .val (.int n), .val (.int pos), .val (.int mu), .val (.int rep), .val (.int fl), .val (.int r1), .val (.int r3), .val (.int r5), .val (.int r7), .val (.int r9), .val (.int r11), .val (.int r13)] [(.int (5 : Int32)), (.ref b71), (.ref b71)])) (fun _ q => XS.dup X71.here hx rfl (hb hby own_d3_229) rfl rfl (XS.iconst X71.here hx rfl (hb hby own_d3_230) (q))) ?_
              obtain ⟨T73, h73, k73, X73, e73, E73, A73, st73⟩ := newP X71 hx w72.2.1 (hw _ (List.mem_of_getElem? (i := 51) rfl)) e71 (g := (mkF m 231 #[.val (.ref x), .val (.int n), .val (.int pos), .val (.int mu), .val (.int rep), .val (.int fl), .val (.int r1), .val (.int r3), .val (.int r5), .val (.int r7), .val (.int r9), .val (.int r11), .val (.int r13)] [(.int (5 : Int32)), (.ref b71), (.ref b71)])) rfl (hb hby own_d3_231) rfl (by decide) (cap := 5) (by decide) (by decide) (by decide) (by decide)
              obtain ⟨b73, g73⟩ : ∃ z, z = h71.size := ⟨_, rfl⟩
              rw [← g73] at A73 st73
              have V73 : Arv Z h73 b73 k73 .char (5 : Int32) [(.int (0 : Int32)), (.int (0 : Int32)), (.int (0 : Int32)), (.int (0 : Int32)), (.int (0 : Int32))] (.int (0 : Int32)) := (Arv.new A73 (by decide)).pad (pad_rep [] (.int (0 : Int32)) 5)
              have w74 := w72.ext E73
              refine own_stW (g' := (mkF m 233 #[.val (.ref x), .val (.int n), .val (.int pos), .val (.int mu), .val (.int rep), .val (.int fl), .val (.int r1), .val (.int r3), .val (.int r5), .val (.int r7), .val (.int r9), .val (.int r11), .val (.int r13)] [(.ref b73), (.ref b71), (.ref b71)])) st73 ?_
              refine own_stW (g' := (mkF m 237 #[.val (.ref x), .val (.int n), .val (.int pos), .val (.int mu), .val (.int rep), .val (.int fl), .val (.int r1), .val (.int r3), .val (.int r5), .val (.int r7), .val (.int r9), .val (.int r11), .val (.int r13)] [(.int r1), (.int (0 : Int32)), (.ref b73), (.ref b73), (.ref b71), (.ref b71)])) (fun _ q => XS.dup X73.here hx rfl (hb hby own_d3_233) rfl rfl (XS.iconst X73.here hx rfl (hb hby own_d3_234) (XS.iload X73.here hx rfl (hb hby own_d3_235) rfl (q)))) ?_
              obtain ⟨T75, h75, X75, e75, V75, W75, st75⟩ := own_cast X73 hx w74.2.1 e73 V73 (j := (0 : Int32)) (x := r1) ⟨by decide, by decide⟩ 0 rfl (Nat.le_of_ble_eq_true rfl) (pc := 237) (Ls := #[.val (.ref x), .val (.int n), .val (.int pos), .val (.int mu), .val (.int rep), .val (.int fl), .val (.int r1), .val (.int r3), .val (.int r5), .val (.int r7), .val (.int r9), .val (.int r11), .val (.int r13)]) (rest := [(.ref b73), (.ref b71), (.ref b71)]) (hb hby own_d3_237)
              replace V75 : Arv Z h75 b73 k73 .char (5 : Int32) [(.int d0), (.int (0 : Int32)), (.int (0 : Int32)), (.int (0 : Int32)), (.int (0 : Int32))] (.int (0 : Int32)) := by rw [hd0, ← hr1]; exact V75
              have N75 := Fr.snoc X75 N0 (Nat.le_trans (Nat.le_trans Z0 E71.1) (Nat.le_of_eq g73.symm))
              have w76 := w74.wr W75 (Safe.arv w74.2.1.alike V73 (by simp))
              refine own_stW (g' := (mkF m 238 #[.val (.ref x), .val (.int n), .val (.int pos), .val (.int mu), .val (.int rep), .val (.int fl), .val (.int r1), .val (.int r3), .val (.int r5), .val (.int r7), .val (.int r9), .val (.int r11), .val (.int r13)] [(.ref b73), (.ref b71), (.ref b71)])) st75 ?_
              refine own_stW (g' := (mkF m 242 #[.val (.ref x), .val (.int n), .val (.int pos), .val (.int mu), .val (.int rep), .val (.int fl), .val (.int r1), .val (.int r3), .val (.int r5), .val (.int r7), .val (.int r9), .val (.int r11), .val (.int r13)] [(.int r3), (.int (1 : Int32)), (.ref b73), (.ref b73), (.ref b71), (.ref b71)])) (fun _ q => XS.dup X75.here hx rfl (hb hby own_d3_238) rfl rfl (XS.iconst X75.here hx rfl (hb hby own_d3_239) (XS.iload X75.here hx rfl (hb hby own_d3_240) rfl (q)))) ?_
              obtain ⟨T77, h77, X77, e77, V77, W77, st77⟩ := own_cast X75 hx w76.2.1 e75 V75 (j := (1 : Int32)) (x := r3) ⟨by decide, by decide⟩ 1 rfl (Nat.le_of_ble_eq_true rfl) (pc := 242) (Ls := #[.val (.ref x), .val (.int n), .val (.int pos), .val (.int mu), .val (.int rep), .val (.int fl), .val (.int r1), .val (.int r3), .val (.int r5), .val (.int r7), .val (.int r9), .val (.int r11), .val (.int r13)]) (rest := [(.ref b73), (.ref b71), (.ref b71)]) (hb hby own_d3_242)
              replace V77 : Arv Z h77 b73 k73 .char (5 : Int32) [(.int d0), (.int d1), (.int (0 : Int32)), (.int (0 : Int32)), (.int (0 : Int32))] (.int (0 : Int32)) := by rw [hd1, ← hr3]; exact V77
              have N77 := Fr.snoc X77 N75 (Nat.le_trans (Nat.le_trans Z0 E71.1) (Nat.le_of_eq g73.symm))
              have w78 := w76.wr W77 (Safe.arv w76.2.1.alike V75 (by simp))
              refine own_stW (g' := (mkF m 243 #[.val (.ref x), .val (.int n), .val (.int pos), .val (.int mu), .val (.int rep), .val (.int fl), .val (.int r1), .val (.int r3), .val (.int r5), .val (.int r7), .val (.int r9), .val (.int r11), .val (.int r13)] [(.ref b73), (.ref b71), (.ref b71)])) st77 ?_
              refine own_stW (g' := (mkF m 247 #[.val (.ref x), .val (.int n), .val (.int pos), .val (.int mu), .val (.int rep), .val (.int fl), .val (.int r1), .val (.int r3), .val (.int r5), .val (.int r7), .val (.int r9), .val (.int r11), .val (.int r13)] [(.int r5), (.int (2 : Int32)), (.ref b73), (.ref b73), (.ref b71), (.ref b71)])) (fun _ q => XS.dup X77.here hx rfl (hb hby own_d3_243) rfl rfl (XS.iconst X77.here hx rfl (hb hby own_d3_244) (XS.iload X77.here hx rfl (hb hby own_d3_245) rfl (q)))) ?_
              obtain ⟨T79, h79, X79, e79, V79, W79, st79⟩ := own_cast X77 hx w78.2.1 e77 V77 (j := (2 : Int32)) (x := r5) ⟨by decide, by decide⟩ 2 rfl (Nat.le_of_ble_eq_true rfl) (pc := 247) (Ls := #[.val (.ref x), .val (.int n), .val (.int pos), .val (.int mu), .val (.int rep), .val (.int fl), .val (.int r1), .val (.int r3), .val (.int r5), .val (.int r7), .val (.int r9), .val (.int r11), .val (.int r13)]) (rest := [(.ref b73), (.ref b71), (.ref b71)]) (hb hby own_d3_247)
              replace V79 : Arv Z h79 b73 k73 .char (5 : Int32) [(.int d0), (.int d1), (.int d2), (.int (0 : Int32)), (.int (0 : Int32))] (.int (0 : Int32)) := by rw [hd2, ← hr5]; exact V79
              have N79 := Fr.snoc X79 N77 (Nat.le_trans (Nat.le_trans Z0 E71.1) (Nat.le_of_eq g73.symm))
              have w80 := w78.wr W79 (Safe.arv w78.2.1.alike V77 (by simp))
              refine own_stW (g' := (mkF m 248 #[.val (.ref x), .val (.int n), .val (.int pos), .val (.int mu), .val (.int rep), .val (.int fl), .val (.int r1), .val (.int r3), .val (.int r5), .val (.int r7), .val (.int r9), .val (.int r11), .val (.int r13)] [(.ref b73), (.ref b71), (.ref b71)])) st79 ?_
              refine own_stW (g' := (mkF m 252 #[.val (.ref x), .val (.int n), .val (.int pos), .val (.int mu), .val (.int rep), .val (.int fl), .val (.int r1), .val (.int r3), .val (.int r5), .val (.int r7), .val (.int r9), .val (.int r11), .val (.int r13)] [(.int r7), (.int (3 : Int32)), (.ref b73), (.ref b73), (.ref b71), (.ref b71)])) (fun _ q => XS.dup X79.here hx rfl (hb hby own_d3_248) rfl rfl (XS.iconst X79.here hx rfl (hb hby own_d3_249) (XS.iload X79.here hx rfl (hb hby own_d3_250) rfl (q)))) ?_
              obtain ⟨T81, h81, X81, e81, V81, W81, st81⟩ := own_cast X79 hx w80.2.1 e79 V79 (j := (3 : Int32)) (x := r7) ⟨by decide, by decide⟩ 3 rfl (Nat.le_of_ble_eq_true rfl) (pc := 252) (Ls := #[.val (.ref x), .val (.int n), .val (.int pos), .val (.int mu), .val (.int rep), .val (.int fl), .val (.int r1), .val (.int r3), .val (.int r5), .val (.int r7), .val (.int r9), .val (.int r11), .val (.int r13)]) (rest := [(.ref b73), (.ref b71), (.ref b71)]) (hb hby own_d3_252)
              replace V81 : Arv Z h81 b73 k73 .char (5 : Int32) [(.int d0), (.int d1), (.int d2), (.int d3), (.int (0 : Int32))] (.int (0 : Int32)) := by rw [hd3, ← hr7]; exact V81
              have N81 := Fr.snoc X81 N79 (Nat.le_trans (Nat.le_trans Z0 E71.1) (Nat.le_of_eq g73.symm))
              have w82 := w80.wr W81 (Safe.arv w80.2.1.alike V79 (by simp))
              refine own_stW (g' := (mkF m 253 #[.val (.ref x), .val (.int n), .val (.int pos), .val (.int mu), .val (.int rep), .val (.int fl), .val (.int r1), .val (.int r3), .val (.int r5), .val (.int r7), .val (.int r9), .val (.int r11), .val (.int r13)] [(.ref b73), (.ref b71), (.ref b71)])) st81 ?_
              refine own_stW (g' := (mkF m 257 #[.val (.ref x), .val (.int n), .val (.int pos), .val (.int mu), .val (.int rep), .val (.int fl), .val (.int r1), .val (.int r3), .val (.int r5), .val (.int r7), .val (.int r9), .val (.int r11), .val (.int r13)] [(.int r9), (.int (4 : Int32)), (.ref b73), (.ref b73), (.ref b71), (.ref b71)])) (fun _ q => XS.dup X81.here hx rfl (hb hby own_d3_253) rfl rfl (XS.iconst X81.here hx rfl (hb hby own_d3_254) (XS.iload X81.here hx rfl (hb hby own_d3_255) rfl (q)))) ?_
              obtain ⟨T83, h83, X83, e83, V83, W83, st83⟩ := own_cast X81 hx w82.2.1 e81 V81 (j := (4 : Int32)) (x := r9) ⟨by decide, by decide⟩ 4 rfl (Nat.le_of_ble_eq_true rfl) (pc := 257) (Ls := #[.val (.ref x), .val (.int n), .val (.int pos), .val (.int mu), .val (.int rep), .val (.int fl), .val (.int r1), .val (.int r3), .val (.int r5), .val (.int r7), .val (.int r9), .val (.int r11), .val (.int r13)]) (rest := [(.ref b73), (.ref b71), (.ref b71)]) (hb hby own_d3_257)
              replace V83 : Arv Z h83 b73 k73 .char (5 : Int32) [(.int d0), (.int d1), (.int d2), (.int d3), (.int d4)] (.int (0 : Int32)) := by rw [hd4, ← hr9]; exact V83
              have N83 := Fr.snoc X83 N81 (Nat.le_trans (Nat.le_trans Z0 E71.1) (Nat.le_of_eq g73.symm))
              have w84 := w82.wr W83 (Safe.arv w82.2.1.alike V81 (by simp))
              refine own_stW (g' := (mkF m 258 #[.val (.ref x), .val (.int n), .val (.int pos), .val (.int mu), .val (.int rep), .val (.int fl), .val (.int r1), .val (.int r3), .val (.int r5), .val (.int r7), .val (.int r9), .val (.int r11), .val (.int r13)] [(.ref b73), (.ref b71), (.ref b71)])) st83 ?_
              obtain ⟨_, L85, T85, X85, ⟨rfl, N85q, K85, E85, C85, t85, kb85, u85, v85, w85, F85, A85⟩, st85⟩ := own_cI X83 hx w84.2.1 rfl w84.2.2.1 (hw _ (List.mem_of_getElem? (i := 52) rfl)) (hw _ (List.mem_of_getElem? (i := 53) rfl)) (hw _ (List.mem_of_getElem? (i := 54) rfl)) (by decide) e83 (h := h83) (b := b71) (argsL := [(.ref b73)]) (rest := [(.ref b71)]) (StrChars.Road.backV (s := (s.setVm s.vm)) (W := 1) w84.2.1 hws (kI := 4) (hw _ (List.mem_of_getElem? (i := 2) rfl)) (cs := ([d0, d1, d2, d3, d4] : List Int32)) (bs := (([d0, d1, d2, d3, d4] : List Int32)).map (fun c => c.toInt8.toInt32)) (n := 5) (n0 := n0) (Nat.le_trans Z0 (Nat.le_of_eq g71.symm)) (Nat.le_trans Z0 (Nat.le_trans (Nat.le_trans (Nat.le_trans (Nat.le_trans (Nat.le_trans (Nat.le_trans E71.1 E73.1) (Keep.of_wr W75).1) (Keep.of_wr W77).1) (Keep.of_wr W79).1) (Keep.of_wr W81).1) (Keep.of_wr W83).1)) ((((((A71.ext E73).wr W75).wr W77).wr W79).wr W81).wr W83) ((((((F71_value.ext E73).other W75 (Or.inl (Nat.ne_of_lt (Nat.lt_of_lt_of_eq A71.lt g73.symm)))).other W77 (Or.inl (Nat.ne_of_lt (Nat.lt_of_lt_of_eq A71.lt g73.symm)))).other W79 (Or.inl (Nat.ne_of_lt (Nat.lt_of_lt_of_eq A71.lt g73.symm)))).other W81 (Or.inl (Nat.ne_of_lt (Nat.lt_of_lt_of_eq A71.lt g73.symm)))).other W83 (Or.inl (Nat.ne_of_lt (Nat.lt_of_lt_of_eq A71.lt g73.symm)))) ((((((F71_coder.ext E73).other W75 (Or.inl (Nat.ne_of_lt (Nat.lt_of_lt_of_eq A71.lt g73.symm)))).other W77 (Or.inl (Nat.ne_of_lt (Nat.lt_of_lt_of_eq A71.lt g73.symm)))).other W79 (Or.inl (Nat.ne_of_lt (Nat.lt_of_lt_of_eq A71.lt g73.symm)))).other W81 (Or.inl (Nat.ne_of_lt (Nat.lt_of_lt_of_eq A71.lt g73.symm)))).other W83 (Or.inl (Nat.ne_of_lt (Nat.lt_of_lt_of_eq A71.lt g73.symm)))) V83 (O.ext (((((((X00.ext E71).ext E73).wr W75 (Nat.le_trans (Nat.le_trans Z0 E71.1) (Nat.le_of_eq g73.symm))).wr W77 (Nat.le_trans (Nat.le_trans Z0 E71.1) (Nat.le_of_eq g73.symm))).wr W79 (Nat.le_trans (Nat.le_trans Z0 E71.1) (Nat.le_of_eq g73.symm))).wr W81 (Nat.le_trans (Nat.le_trans Z0 E71.1) (Nat.le_of_eq g73.symm))).wr W83 (Nat.le_trans (Nat.le_trans Z0 E71.1) (Nat.le_of_eq g73.symm))).2) hz rfl rfl (by decide) (by decide) (fun c hc => hp c (List.mem_append_left [d5, d6] hc)) rfl (by decide) (by decide)) (pc := 258) (Ls := #[.val (.ref x), .val (.int n), .val (.int pos), .val (.int mu), .val (.int rep), .val (.int fl), .val (.int r1), .val (.int r3), .val (.int r5), .val (.int r7), .val (.int r9), .val (.int r11), .val (.int r13)]) (by rw [hml]; rfl) (lenOf own_pd4 rfl) rfl (Nat.le_of_eq rfl) (hb hby own_d3_258) (by decide) (by decide)
              refine own_stW (g' := (mkF m 261 #[.val (.ref x), .val (.int n), .val (.int pos), .val (.int mu), .val (.int rep), .val (.int fl), .val (.int r1), .val (.int r3), .val (.int r5), .val (.int r7), .val (.int r9), .val (.int r11), .val (.int r13)] [(.ref b71)])) st85 ?_
              have N85 := Fr.app N83 N85q
              have w86 := w84.keep K85 (sfS (Safe.wr W83 (Safe.wr W81 (Safe.wr W79 (Safe.wr W77 (Safe.wr W75 (Safe.ext E73 w72.held (Safe.new (Nat.le_of_eq g73.symm))) w74.held (Safe.ext E73 w72.held (Safe.new (Nat.le_of_eq g73.symm)))) w76.held (Safe.wr W75 (Safe.ext E73 w72.held (Safe.new (Nat.le_of_eq g73.symm))) w74.held (Safe.ext E73 w72.held (Safe.new (Nat.le_of_eq g73.symm))))) w78.held (Safe.wr W77 (Safe.wr W75 (Safe.ext E73 w72.held (Safe.new (Nat.le_of_eq g73.symm))) w74.held (Safe.ext E73 w72.held (Safe.new (Nat.le_of_eq g73.symm)))) w76.held (Safe.wr W75 (Safe.ext E73 w72.held (Safe.new (Nat.le_of_eq g73.symm))) w74.held (Safe.ext E73 w72.held (Safe.new (Nat.le_of_eq g73.symm)))))) w80.held (Safe.wr W79 (Safe.wr W77 (Safe.wr W75 (Safe.ext E73 w72.held (Safe.new (Nat.le_of_eq g73.symm))) w74.held (Safe.ext E73 w72.held (Safe.new (Nat.le_of_eq g73.symm)))) w76.held (Safe.wr W75 (Safe.ext E73 w72.held (Safe.new (Nat.le_of_eq g73.symm))) w74.held (Safe.ext E73 w72.held (Safe.new (Nat.le_of_eq g73.symm))))) w78.held (Safe.wr W77 (Safe.wr W75 (Safe.ext E73 w72.held (Safe.new (Nat.le_of_eq g73.symm))) w74.held (Safe.ext E73 w72.held (Safe.new (Nat.le_of_eq g73.symm)))) w76.held (Safe.wr W75 (Safe.ext E73 w72.held (Safe.new (Nat.le_of_eq g73.symm))) w74.held (Safe.ext E73 w72.held (Safe.new (Nat.le_of_eq g73.symm))))))) w82.held (Safe.wr W81 (Safe.wr W79 (Safe.wr W77 (Safe.wr W75 (Safe.ext E73 w72.held (Safe.new (Nat.le_of_eq g73.symm))) w74.held (Safe.ext E73 w72.held (Safe.new (Nat.le_of_eq g73.symm)))) w76.held (Safe.wr W75 (Safe.ext E73 w72.held (Safe.new (Nat.le_of_eq g73.symm))) w74.held (Safe.ext E73 w72.held (Safe.new (Nat.le_of_eq g73.symm))))) w78.held (Safe.wr W77 (Safe.wr W75 (Safe.ext E73 w72.held (Safe.new (Nat.le_of_eq g73.symm))) w74.held (Safe.ext E73 w72.held (Safe.new (Nat.le_of_eq g73.symm)))) w76.held (Safe.wr W75 (Safe.ext E73 w72.held (Safe.new (Nat.le_of_eq g73.symm))) w74.held (Safe.ext E73 w72.held (Safe.new (Nat.le_of_eq g73.symm)))))) w80.held (Safe.wr W79 (Safe.wr W77 (Safe.wr W75 (Safe.ext E73 w72.held (Safe.new (Nat.le_of_eq g73.symm))) w74.held (Safe.ext E73 w72.held (Safe.new (Nat.le_of_eq g73.symm)))) w76.held (Safe.wr W75 (Safe.ext E73 w72.held (Safe.new (Nat.le_of_eq g73.symm))) w74.held (Safe.ext E73 w72.held (Safe.new (Nat.le_of_eq g73.symm))))) w78.held (Safe.wr W77 (Safe.wr W75 (Safe.ext E73 w72.held (Safe.new (Nat.le_of_eq g73.symm))) w74.held (Safe.ext E73 w72.held (Safe.new (Nat.le_of_eq g73.symm)))) w76.held (Safe.wr W75 (Safe.ext E73 w72.held (Safe.new (Nat.le_of_eq g73.symm))) w74.held (Safe.ext E73 w72.held (Safe.ext E71 W0.held (Safe.new (Nat.le_of_eq g71.symm))))))))) sf0)
              exact own_goWR X85 hh w86 hEL rfl hlk hx (t := (.object "java/lang/String")) rfl rfl Bd.returns (hb hby own_d3_261) ⟨N85, (((((((((Keep.refl h0 []).ext E71).ext E73).wr W75 (Or.inr (Nat.le_trans E71.1 (Nat.le_of_eq g73.symm)))).wr W77 (Or.inr (Nat.le_trans E71.1 (Nat.le_of_eq g73.symm)))).wr W79 (Or.inr (Nat.le_trans E71.1 (Nat.le_of_eq g73.symm)))).wr W81 (Or.inr (Nat.le_trans E71.1 (Nat.le_of_eq g73.symm)))).wr W83 (Or.inr (Nat.le_trans E71.1 (Nat.le_of_eq g73.symm)))).trans K85 (allS (Or.inr (Nat.le_trans (Nat.le_refl _) (Nat.le_of_eq g71.symm))) all0)), b71, t85, kb85, _, _, rfl, A85.lt, E85, F85, C85, A85, (by rw [own_bs, if_neg hc15, if_neg hc22, if_neg hc31, if_neg hc42, if_neg hc55, if_pos hc70]; exact StrChars.Road.codOf (n := 5) rfl (fun c hc => (hp c (List.mem_append_left [d5, d6] hc)).2))⟩ (by decide) (by decide)
            · -- not: n = (5 : Int32)
              refine own_stW (g' := (mkF m 265 #[.val (.ref x), .val (.int n), .val (.int pos), .val (.int mu), .val (.int rep), .val (.int fl), .val (.int r1), .val (.int r3), .val (.int r5), .val (.int r7), .val (.int r9), .val (.int r11), .val (.int r13)] [(.int (6 : Int32)), (.int n)])) (fun _ q => XS.icmpYes X14.here hx rfl (pc0 := 223) (pc' := 262) rfl (hb hby own_d3_223) rfl (feq hc70).2 (by decide) (by decide) (XS.iloadN X14.here hx rfl (hb hby own_d3_262) rfl (XS.bipush X14.here hx rfl (hb hby own_d3_263) (q)))) ?_
              by_cases hc87 : n = (6 : Int32)
              · -- n = (6 : Int32)
                refine own_stW (g' := (mkF m 268 #[.val (.ref x), .val (.int n), .val (.int pos), .val (.int mu), .val (.int rep), .val (.int fl), .val (.int r1), .val (.int r3), .val (.int r5), .val (.int r7), .val (.int r9), .val (.int r11), .val (.int r13)] [])) (fun _ q => XS.icmpNo X14.here hx rfl (hb hby own_d3_265) rfl (teq hc87).2 (q)) ?_
                obtain ⟨T88, h88, X88, e88, E88, A88, D88, U88, st88⟩ := newO X14 hx W0.2.1 W0.2.2.1 (hw _ (List.mem_of_getElem? (i := 50) rfl)) (hw _ (List.mem_of_getElem? (i := 2) rfl)) (hw _ (List.mem_of_getElem? (i := 1) rfl)) e14 (g := (mkF m 268 #[.val (.ref x), .val (.int n), .val (.int pos), .val (.int mu), .val (.int rep), .val (.int fl), .val (.int r1), .val (.int r3), .val (.int r5), .val (.int r7), .val (.int r9), .val (.int r11), .val (.int r13)] [])) rfl (hb hby own_d3_268) (by decide) (by decide)
                obtain ⟨b88, g88⟩ : ∃ z, z = h0.size := ⟨_, rfl⟩
                rw [← g88] at A88 D88 U88 st88
                have w89 := W0.ext E88
                have F88_value : Fld Z h88 b88 "java/lang/String" "value" "[B" .null := D88 (Or.inr (hw _ (List.mem_of_getElem? (i := 4) rfl))) (ty := (.array .byte)) (by decide)
                have F88_coder : Fld Z h88 b88 "java/lang/String" "coder" "B" (.int (0 : Int32)) := D88 (Or.inr (hw _ (List.mem_of_getElem? (i := 5) rfl))) (ty := .byte) (by decide)
                refine own_stW (g' := (mkF m 271 #[.val (.ref x), .val (.int n), .val (.int pos), .val (.int mu), .val (.int rep), .val (.int fl), .val (.int r1), .val (.int r3), .val (.int r5), .val (.int r7), .val (.int r9), .val (.int r11), .val (.int r13)] [(.ref b88)])) st88 ?_
                refine own_stW (g' := (mkF m 274 #[.val (.ref x), .val (.int n), .val (.int pos), .val (.int mu), .val (.int rep), .val (.int fl), .val (.int r1), .val (.int r3), .val (.int r5), .val (.int r7), .val (.int r9), .val (.int r11), .val (.int r13)] [(.int (6 : Int32)), (.ref b88), (.ref b88)])) (fun _ q => XS.dup X88.here hx rfl (hb hby own_d3_271) rfl rfl (XS.bipush X88.here hx rfl (hb hby own_d3_272) (q))) ?_
                obtain ⟨T90, h90, k90, X90, e90, E90, A90, st90⟩ := newP X88 hx w89.2.1 (hw _ (List.mem_of_getElem? (i := 51) rfl)) e88 (g := (mkF m 274 #[.val (.ref x), .val (.int n), .val (.int pos), .val (.int mu), .val (.int rep), .val (.int fl), .val (.int r1), .val (.int r3), .val (.int r5), .val (.int r7), .val (.int r9), .val (.int r11), .val (.int r13)] [(.int (6 : Int32)), (.ref b88), (.ref b88)])) rfl (hb hby own_d3_274) rfl (by decide) (cap := 6) (by decide) (by decide) (by decide) (by decide)
                obtain ⟨b90, g90⟩ : ∃ z, z = h88.size := ⟨_, rfl⟩
                rw [← g90] at A90 st90
                have V90 : Arv Z h90 b90 k90 .char (6 : Int32) [(.int (0 : Int32)), (.int (0 : Int32)), (.int (0 : Int32)), (.int (0 : Int32)), (.int (0 : Int32)), (.int (0 : Int32))] (.int (0 : Int32)) := (Arv.new A90 (by decide)).pad (pad_rep [] (.int (0 : Int32)) 6)
                have w91 := w89.ext E90
                refine own_stW (g' := (mkF m 276 #[.val (.ref x), .val (.int n), .val (.int pos), .val (.int mu), .val (.int rep), .val (.int fl), .val (.int r1), .val (.int r3), .val (.int r5), .val (.int r7), .val (.int r9), .val (.int r11), .val (.int r13)] [(.ref b90), (.ref b88), (.ref b88)])) st90 ?_
                refine own_stW (g' := (mkF m 280 #[.val (.ref x), .val (.int n), .val (.int pos), .val (.int mu), .val (.int rep), .val (.int fl), .val (.int r1), .val (.int r3), .val (.int r5), .val (.int r7), .val (.int r9), .val (.int r11), .val (.int r13)] [(.int r1), (.int (0 : Int32)), (.ref b90), (.ref b90), (.ref b88), (.ref b88)])) (fun _ q => XS.dup X90.here hx rfl (hb hby own_d3_276) rfl rfl (XS.iconst X90.here hx rfl (hb hby own_d3_277) (XS.iload X90.here hx rfl (hb hby own_d3_278) rfl (q)))) ?_
                obtain ⟨T92, h92, X92, e92, V92, W92, st92⟩ := own_cast X90 hx w91.2.1 e90 V90 (j := (0 : Int32)) (x := r1) ⟨by decide, by decide⟩ 0 rfl (Nat.le_of_ble_eq_true rfl) (pc := 280) (Ls := #[.val (.ref x), .val (.int n), .val (.int pos), .val (.int mu), .val (.int rep), .val (.int fl), .val (.int r1), .val (.int r3), .val (.int r5), .val (.int r7), .val (.int r9), .val (.int r11), .val (.int r13)]) (rest := [(.ref b90), (.ref b88), (.ref b88)]) (hb hby own_d3_280)
                replace V92 : Arv Z h92 b90 k90 .char (6 : Int32) [(.int d0), (.int (0 : Int32)), (.int (0 : Int32)), (.int (0 : Int32)), (.int (0 : Int32)), (.int (0 : Int32))] (.int (0 : Int32)) := by rw [hd0, ← hr1]; exact V92
                have N92 := Fr.snoc X92 N0 (Nat.le_trans (Nat.le_trans Z0 E88.1) (Nat.le_of_eq g90.symm))
                have w93 := w91.wr W92 (Safe.arv w91.2.1.alike V90 (by simp))
                refine own_stW (g' := (mkF m 281 #[.val (.ref x), .val (.int n), .val (.int pos), .val (.int mu), .val (.int rep), .val (.int fl), .val (.int r1), .val (.int r3), .val (.int r5), .val (.int r7), .val (.int r9), .val (.int r11), .val (.int r13)] [(.ref b90), (.ref b88), (.ref b88)])) st92 ?_
                refine own_stW (g' := (mkF m 285 #[.val (.ref x), .val (.int n), .val (.int pos), .val (.int mu), .val (.int rep), .val (.int fl), .val (.int r1), .val (.int r3), .val (.int r5), .val (.int r7), .val (.int r9), .val (.int r11), .val (.int r13)] [(.int r3), (.int (1 : Int32)), (.ref b90), (.ref b90), (.ref b88), (.ref b88)])) (fun _ q => XS.dup X92.here hx rfl (hb hby own_d3_281) rfl rfl (XS.iconst X92.here hx rfl (hb hby own_d3_282) (XS.iload X92.here hx rfl (hb hby own_d3_283) rfl (q)))) ?_
                obtain ⟨T94, h94, X94, e94, V94, W94, st94⟩ := own_cast X92 hx w93.2.1 e92 V92 (j := (1 : Int32)) (x := r3) ⟨by decide, by decide⟩ 1 rfl (Nat.le_of_ble_eq_true rfl) (pc := 285) (Ls := #[.val (.ref x), .val (.int n), .val (.int pos), .val (.int mu), .val (.int rep), .val (.int fl), .val (.int r1), .val (.int r3), .val (.int r5), .val (.int r7), .val (.int r9), .val (.int r11), .val (.int r13)]) (rest := [(.ref b90), (.ref b88), (.ref b88)]) (hb hby own_d3_285)
                replace V94 : Arv Z h94 b90 k90 .char (6 : Int32) [(.int d0), (.int d1), (.int (0 : Int32)), (.int (0 : Int32)), (.int (0 : Int32)), (.int (0 : Int32))] (.int (0 : Int32)) := by rw [hd1, ← hr3]; exact V94
                have N94 := Fr.snoc X94 N92 (Nat.le_trans (Nat.le_trans Z0 E88.1) (Nat.le_of_eq g90.symm))
                have w95 := w93.wr W94 (Safe.arv w93.2.1.alike V92 (by simp))
                refine own_stW (g' := (mkF m 286 #[.val (.ref x), .val (.int n), .val (.int pos), .val (.int mu), .val (.int rep), .val (.int fl), .val (.int r1), .val (.int r3), .val (.int r5), .val (.int r7), .val (.int r9), .val (.int r11), .val (.int r13)] [(.ref b90), (.ref b88), (.ref b88)])) st94 ?_
                refine own_stW (g' := (mkF m 290 #[.val (.ref x), .val (.int n), .val (.int pos), .val (.int mu), .val (.int rep), .val (.int fl), .val (.int r1), .val (.int r3), .val (.int r5), .val (.int r7), .val (.int r9), .val (.int r11), .val (.int r13)] [(.int r5), (.int (2 : Int32)), (.ref b90), (.ref b90), (.ref b88), (.ref b88)])) (fun _ q => XS.dup X94.here hx rfl (hb hby own_d3_286) rfl rfl (XS.iconst X94.here hx rfl (hb hby own_d3_287) (XS.iload X94.here hx rfl (hb hby own_d3_288) rfl (q)))) ?_
                obtain ⟨T96, h96, X96, e96, V96, W96, st96⟩ := own_cast X94 hx w95.2.1 e94 V94 (j := (2 : Int32)) (x := r5) ⟨by decide, by decide⟩ 2 rfl (Nat.le_of_ble_eq_true rfl) (pc := 290) (Ls := #[.val (.ref x), .val (.int n), .val (.int pos), .val (.int mu), .val (.int rep), .val (.int fl), .val (.int r1), .val (.int r3), .val (.int r5), .val (.int r7), .val (.int r9), .val (.int r11), .val (.int r13)]) (rest := [(.ref b90), (.ref b88), (.ref b88)]) (hb hby own_d3_290)
                replace V96 : Arv Z h96 b90 k90 .char (6 : Int32) [(.int d0), (.int d1), (.int d2), (.int (0 : Int32)), (.int (0 : Int32)), (.int (0 : Int32))] (.int (0 : Int32)) := by rw [hd2, ← hr5]; exact V96
                have N96 := Fr.snoc X96 N94 (Nat.le_trans (Nat.le_trans Z0 E88.1) (Nat.le_of_eq g90.symm))
                have w97 := w95.wr W96 (Safe.arv w95.2.1.alike V94 (by simp))
                refine own_stW (g' := (mkF m 291 #[.val (.ref x), .val (.int n), .val (.int pos), .val (.int mu), .val (.int rep), .val (.int fl), .val (.int r1), .val (.int r3), .val (.int r5), .val (.int r7), .val (.int r9), .val (.int r11), .val (.int r13)] [(.ref b90), (.ref b88), (.ref b88)])) st96 ?_
                refine own_stW (g' := (mkF m 295 #[.val (.ref x), .val (.int n), .val (.int pos), .val (.int mu), .val (.int rep), .val (.int fl), .val (.int r1), .val (.int r3), .val (.int r5), .val (.int r7), .val (.int r9), .val (.int r11), .val (.int r13)] [(.int r7), (.int (3 : Int32)), (.ref b90), (.ref b90), (.ref b88), (.ref b88)])) (fun _ q => XS.dup X96.here hx rfl (hb hby own_d3_291) rfl rfl (XS.iconst X96.here hx rfl (hb hby own_d3_292) (XS.iload X96.here hx rfl (hb hby own_d3_293) rfl (q)))) ?_
                obtain ⟨T98, h98, X98, e98, V98, W98, st98⟩ := own_cast X96 hx w97.2.1 e96 V96 (j := (3 : Int32)) (x := r7) ⟨by decide, by decide⟩ 3 rfl (Nat.le_of_ble_eq_true rfl) (pc := 295) (Ls := #[.val (.ref x), .val (.int n), .val (.int pos), .val (.int mu), .val (.int rep), .val (.int fl), .val (.int r1), .val (.int r3), .val (.int r5), .val (.int r7), .val (.int r9), .val (.int r11), .val (.int r13)]) (rest := [(.ref b90), (.ref b88), (.ref b88)]) (hb hby own_d3_295)
                replace V98 : Arv Z h98 b90 k90 .char (6 : Int32) [(.int d0), (.int d1), (.int d2), (.int d3), (.int (0 : Int32)), (.int (0 : Int32))] (.int (0 : Int32)) := by rw [hd3, ← hr7]; exact V98
                have N98 := Fr.snoc X98 N96 (Nat.le_trans (Nat.le_trans Z0 E88.1) (Nat.le_of_eq g90.symm))
                have w99 := w97.wr W98 (Safe.arv w97.2.1.alike V96 (by simp))
                refine own_stW (g' := (mkF m 296 #[.val (.ref x), .val (.int n), .val (.int pos), .val (.int mu), .val (.int rep), .val (.int fl), .val (.int r1), .val (.int r3), .val (.int r5), .val (.int r7), .val (.int r9), .val (.int r11), .val (.int r13)] [(.ref b90), (.ref b88), (.ref b88)])) st98 ?_
                refine own_stW (g' := (mkF m 300 #[.val (.ref x), .val (.int n), .val (.int pos), .val (.int mu), .val (.int rep), .val (.int fl), .val (.int r1), .val (.int r3), .val (.int r5), .val (.int r7), .val (.int r9), .val (.int r11), .val (.int r13)] [(.int r9), (.int (4 : Int32)), (.ref b90), (.ref b90), (.ref b88), (.ref b88)])) (fun _ q => XS.dup X98.here hx rfl (hb hby own_d3_296) rfl rfl (XS.iconst X98.here hx rfl (hb hby own_d3_297) (XS.iload X98.here hx rfl (hb hby own_d3_298) rfl (q)))) ?_
                obtain ⟨T100, h100, X100, e100, V100, W100, st100⟩ := own_cast X98 hx w99.2.1 e98 V98 (j := (4 : Int32)) (x := r9) ⟨by decide, by decide⟩ 4 rfl (Nat.le_of_ble_eq_true rfl) (pc := 300) (Ls := #[.val (.ref x), .val (.int n), .val (.int pos), .val (.int mu), .val (.int rep), .val (.int fl), .val (.int r1), .val (.int r3), .val (.int r5), .val (.int r7), .val (.int r9), .val (.int r11), .val (.int r13)]) (rest := [(.ref b90), (.ref b88), (.ref b88)]) (hb hby own_d3_300)
                replace V100 : Arv Z h100 b90 k90 .char (6 : Int32) [(.int d0), (.int d1), (.int d2), (.int d3), (.int d4), (.int (0 : Int32))] (.int (0 : Int32)) := by rw [hd4, ← hr9]; exact V100
                have N100 := Fr.snoc X100 N98 (Nat.le_trans (Nat.le_trans Z0 E88.1) (Nat.le_of_eq g90.symm))
                have w101 := w99.wr W100 (Safe.arv w99.2.1.alike V98 (by simp))
                refine own_stW (g' := (mkF m 301 #[.val (.ref x), .val (.int n), .val (.int pos), .val (.int mu), .val (.int rep), .val (.int fl), .val (.int r1), .val (.int r3), .val (.int r5), .val (.int r7), .val (.int r9), .val (.int r11), .val (.int r13)] [(.ref b90), (.ref b88), (.ref b88)])) st100 ?_
                refine own_stW (g' := (mkF m 305 #[.val (.ref x), .val (.int n), .val (.int pos), .val (.int mu), .val (.int rep), .val (.int fl), .val (.int r1), .val (.int r3), .val (.int r5), .val (.int r7), .val (.int r9), .val (.int r11), .val (.int r13)] [(.int r11), (.int (5 : Int32)), (.ref b90), (.ref b90), (.ref b88), (.ref b88)])) (fun _ q => XS.dup X100.here hx rfl (hb hby own_d3_301) rfl rfl (XS.iconst X100.here hx rfl (hb hby own_d3_302) (XS.iload X100.here hx rfl (hb hby own_d3_303) rfl (q)))) ?_
                obtain ⟨T102, h102, X102, e102, V102, W102, st102⟩ := own_cast X100 hx w101.2.1 e100 V100 (j := (5 : Int32)) (x := r11) ⟨by decide, by decide⟩ 5 rfl (Nat.le_of_ble_eq_true rfl) (pc := 305) (Ls := #[.val (.ref x), .val (.int n), .val (.int pos), .val (.int mu), .val (.int rep), .val (.int fl), .val (.int r1), .val (.int r3), .val (.int r5), .val (.int r7), .val (.int r9), .val (.int r11), .val (.int r13)]) (rest := [(.ref b90), (.ref b88), (.ref b88)]) (hb hby own_d3_305)
                replace V102 : Arv Z h102 b90 k90 .char (6 : Int32) [(.int d0), (.int d1), (.int d2), (.int d3), (.int d4), (.int d5)] (.int (0 : Int32)) := by rw [hd5, ← hr11]; exact V102
                have N102 := Fr.snoc X102 N100 (Nat.le_trans (Nat.le_trans Z0 E88.1) (Nat.le_of_eq g90.symm))
                have w103 := w101.wr W102 (Safe.arv w101.2.1.alike V100 (by simp))
                refine own_stW (g' := (mkF m 306 #[.val (.ref x), .val (.int n), .val (.int pos), .val (.int mu), .val (.int rep), .val (.int fl), .val (.int r1), .val (.int r3), .val (.int r5), .val (.int r7), .val (.int r9), .val (.int r11), .val (.int r13)] [(.ref b90), (.ref b88), (.ref b88)])) st102 ?_
                obtain ⟨_, L104, T104, X104, ⟨rfl, N104q, K104, E104, C104, t104, kb104, u104, v104, w104, F104, A104⟩, st104⟩ := own_cI X102 hx w103.2.1 rfl w103.2.2.1 (hw _ (List.mem_of_getElem? (i := 52) rfl)) (hw _ (List.mem_of_getElem? (i := 53) rfl)) (hw _ (List.mem_of_getElem? (i := 54) rfl)) (by decide) e102 (h := h102) (b := b88) (argsL := [(.ref b90)]) (rest := [(.ref b88)]) (StrChars.Road.backV (s := (s.setVm s.vm)) (W := 1) w103.2.1 hws (kI := 4) (hw _ (List.mem_of_getElem? (i := 2) rfl)) (cs := ([d0, d1, d2, d3, d4, d5] : List Int32)) (bs := (([d0, d1, d2, d3, d4, d5] : List Int32)).map (fun c => c.toInt8.toInt32)) (n := 6) (n0 := n0) (Nat.le_trans Z0 (Nat.le_of_eq g88.symm)) (Nat.le_trans Z0 (Nat.le_trans (Nat.le_trans (Nat.le_trans (Nat.le_trans (Nat.le_trans (Nat.le_trans (Nat.le_trans E88.1 E90.1) (Keep.of_wr W92).1) (Keep.of_wr W94).1) (Keep.of_wr W96).1) (Keep.of_wr W98).1) (Keep.of_wr W100).1) (Keep.of_wr W102).1)) (((((((A88.ext E90).wr W92).wr W94).wr W96).wr W98).wr W100).wr W102) (((((((F88_value.ext E90).other W92 (Or.inl (Nat.ne_of_lt (Nat.lt_of_lt_of_eq A88.lt g90.symm)))).other W94 (Or.inl (Nat.ne_of_lt (Nat.lt_of_lt_of_eq A88.lt g90.symm)))).other W96 (Or.inl (Nat.ne_of_lt (Nat.lt_of_lt_of_eq A88.lt g90.symm)))).other W98 (Or.inl (Nat.ne_of_lt (Nat.lt_of_lt_of_eq A88.lt g90.symm)))).other W100 (Or.inl (Nat.ne_of_lt (Nat.lt_of_lt_of_eq A88.lt g90.symm)))).other W102 (Or.inl (Nat.ne_of_lt (Nat.lt_of_lt_of_eq A88.lt g90.symm)))) (((((((F88_coder.ext E90).other W92 (Or.inl (Nat.ne_of_lt (Nat.lt_of_lt_of_eq A88.lt g90.symm)))).other W94 (Or.inl (Nat.ne_of_lt (Nat.lt_of_lt_of_eq A88.lt g90.symm)))).other W96 (Or.inl (Nat.ne_of_lt (Nat.lt_of_lt_of_eq A88.lt g90.symm)))).other W98 (Or.inl (Nat.ne_of_lt (Nat.lt_of_lt_of_eq A88.lt g90.symm)))).other W100 (Or.inl (Nat.ne_of_lt (Nat.lt_of_lt_of_eq A88.lt g90.symm)))).other W102 (Or.inl (Nat.ne_of_lt (Nat.lt_of_lt_of_eq A88.lt g90.symm)))) V102 (O.ext ((((((((X00.ext E88).ext E90).wr W92 (Nat.le_trans (Nat.le_trans Z0 E88.1) (Nat.le_of_eq g90.symm))).wr W94 (Nat.le_trans (Nat.le_trans Z0 E88.1) (Nat.le_of_eq g90.symm))).wr W96 (Nat.le_trans (Nat.le_trans Z0 E88.1) (Nat.le_of_eq g90.symm))).wr W98 (Nat.le_trans (Nat.le_trans Z0 E88.1) (Nat.le_of_eq g90.symm))).wr W100 (Nat.le_trans (Nat.le_trans Z0 E88.1) (Nat.le_of_eq g90.symm))).wr W102 (Nat.le_trans (Nat.le_trans Z0 E88.1) (Nat.le_of_eq g90.symm))).2) hz rfl rfl (by decide) (by decide) (fun c hc => hp c (List.mem_append_left [d6] hc)) rfl (by decide) (by decide)) (pc := 306) (Ls := #[.val (.ref x), .val (.int n), .val (.int pos), .val (.int mu), .val (.int rep), .val (.int fl), .val (.int r1), .val (.int r3), .val (.int r5), .val (.int r7), .val (.int r9), .val (.int r11), .val (.int r13)]) (by rw [hml]; rfl) (lenOf own_pd4 rfl) rfl (Nat.le_of_eq rfl) (hb hby own_d3_306) (by decide) (by decide)
                refine own_stW (g' := (mkF m 309 #[.val (.ref x), .val (.int n), .val (.int pos), .val (.int mu), .val (.int rep), .val (.int fl), .val (.int r1), .val (.int r3), .val (.int r5), .val (.int r7), .val (.int r9), .val (.int r11), .val (.int r13)] [(.ref b88)])) st104 ?_
                have N104 := Fr.app N102 N104q
                have w105 := w103.keep K104 (sfS (Safe.wr W102 (Safe.wr W100 (Safe.wr W98 (Safe.wr W96 (Safe.wr W94 (Safe.wr W92 (Safe.ext E90 w89.held (Safe.new (Nat.le_of_eq g90.symm))) w91.held (Safe.ext E90 w89.held (Safe.new (Nat.le_of_eq g90.symm)))) w93.held (Safe.wr W92 (Safe.ext E90 w89.held (Safe.new (Nat.le_of_eq g90.symm))) w91.held (Safe.ext E90 w89.held (Safe.new (Nat.le_of_eq g90.symm))))) w95.held (Safe.wr W94 (Safe.wr W92 (Safe.ext E90 w89.held (Safe.new (Nat.le_of_eq g90.symm))) w91.held (Safe.ext E90 w89.held (Safe.new (Nat.le_of_eq g90.symm)))) w93.held (Safe.wr W92 (Safe.ext E90 w89.held (Safe.new (Nat.le_of_eq g90.symm))) w91.held (Safe.ext E90 w89.held (Safe.new (Nat.le_of_eq g90.symm)))))) w97.held (Safe.wr W96 (Safe.wr W94 (Safe.wr W92 (Safe.ext E90 w89.held (Safe.new (Nat.le_of_eq g90.symm))) w91.held (Safe.ext E90 w89.held (Safe.new (Nat.le_of_eq g90.symm)))) w93.held (Safe.wr W92 (Safe.ext E90 w89.held (Safe.new (Nat.le_of_eq g90.symm))) w91.held (Safe.ext E90 w89.held (Safe.new (Nat.le_of_eq g90.symm))))) w95.held (Safe.wr W94 (Safe.wr W92 (Safe.ext E90 w89.held (Safe.new (Nat.le_of_eq g90.symm))) w91.held (Safe.ext E90 w89.held (Safe.new (Nat.le_of_eq g90.symm)))) w93.held (Safe.wr W92 (Safe.ext E90 w89.held (Safe.new (Nat.le_of_eq g90.symm))) w91.held (Safe.ext E90 w89.held (Safe.new (Nat.le_of_eq g90.symm))))))) w99.held (Safe.wr W98 (Safe.wr W96 (Safe.wr W94 (Safe.wr W92 (Safe.ext E90 w89.held (Safe.new (Nat.le_of_eq g90.symm))) w91.held (Safe.ext E90 w89.held (Safe.new (Nat.le_of_eq g90.symm)))) w93.held (Safe.wr W92 (Safe.ext E90 w89.held (Safe.new (Nat.le_of_eq g90.symm))) w91.held (Safe.ext E90 w89.held (Safe.new (Nat.le_of_eq g90.symm))))) w95.held (Safe.wr W94 (Safe.wr W92 (Safe.ext E90 w89.held (Safe.new (Nat.le_of_eq g90.symm))) w91.held (Safe.ext E90 w89.held (Safe.new (Nat.le_of_eq g90.symm)))) w93.held (Safe.wr W92 (Safe.ext E90 w89.held (Safe.new (Nat.le_of_eq g90.symm))) w91.held (Safe.ext E90 w89.held (Safe.new (Nat.le_of_eq g90.symm)))))) w97.held (Safe.wr W96 (Safe.wr W94 (Safe.wr W92 (Safe.ext E90 w89.held (Safe.new (Nat.le_of_eq g90.symm))) w91.held (Safe.ext E90 w89.held (Safe.new (Nat.le_of_eq g90.symm)))) w93.held (Safe.wr W92 (Safe.ext E90 w89.held (Safe.new (Nat.le_of_eq g90.symm))) w91.held (Safe.ext E90 w89.held (Safe.new (Nat.le_of_eq g90.symm))))) w95.held (Safe.wr W94 (Safe.wr W92 (Safe.ext E90 w89.held (Safe.new (Nat.le_of_eq g90.symm))) w91.held (Safe.ext E90 w89.held (Safe.new (Nat.le_of_eq g90.symm)))) w93.held (Safe.wr W92 (Safe.ext E90 w89.held (Safe.new (Nat.le_of_eq g90.symm))) w91.held (Safe.ext E90 w89.held (Safe.new (Nat.le_of_eq g90.symm)))))))) w101.held (Safe.wr W100 (Safe.wr W98 (Safe.wr W96 (Safe.wr W94 (Safe.wr W92 (Safe.ext E90 w89.held (Safe.new (Nat.le_of_eq g90.symm))) w91.held (Safe.ext E90 w89.held (Safe.new (Nat.le_of_eq g90.symm)))) w93.held (Safe.wr W92 (Safe.ext E90 w89.held (Safe.new (Nat.le_of_eq g90.symm))) w91.held (Safe.ext E90 w89.held (Safe.new (Nat.le_of_eq g90.symm))))) w95.held (Safe.wr W94 (Safe.wr W92 (Safe.ext E90 w89.held (Safe.new (Nat.le_of_eq g90.symm))) w91.held (Safe.ext E90 w89.held (Safe.new (Nat.le_of_eq g90.symm)))) w93.held (Safe.wr W92 (Safe.ext E90 w89.held (Safe.new (Nat.le_of_eq g90.symm))) w91.held (Safe.ext E90 w89.held (Safe.new (Nat.le_of_eq g90.symm)))))) w97.held (Safe.wr W96 (Safe.wr W94 (Safe.wr W92 (Safe.ext E90 w89.held (Safe.new (Nat.le_of_eq g90.symm))) w91.held (Safe.ext E90 w89.held (Safe.new (Nat.le_of_eq g90.symm)))) w93.held (Safe.wr W92 (Safe.ext E90 w89.held (Safe.new (Nat.le_of_eq g90.symm))) w91.held (Safe.ext E90 w89.held (Safe.new (Nat.le_of_eq g90.symm))))) w95.held (Safe.wr W94 (Safe.wr W92 (Safe.ext E90 w89.held (Safe.new (Nat.le_of_eq g90.symm))) w91.held (Safe.ext E90 w89.held (Safe.new (Nat.le_of_eq g90.symm)))) w93.held (Safe.wr W92 (Safe.ext E90 w89.held (Safe.new (Nat.le_of_eq g90.symm))) w91.held (Safe.ext E90 w89.held (Safe.new (Nat.le_of_eq g90.symm))))))) w99.held (Safe.wr W98 (Safe.wr W96 (Safe.wr W94 (Safe.wr W92 (Safe.ext E90 w89.held (Safe.new (Nat.le_of_eq g90.symm))) w91.held (Safe.ext E90 w89.held (Safe.new (Nat.le_of_eq g90.symm)))) w93.held (Safe.wr W92 (Safe.ext E90 w89.held (Safe.new (Nat.le_of_eq g90.symm))) w91.held (Safe.ext E90 w89.held (Safe.new (Nat.le_of_eq g90.symm))))) w95.held (Safe.wr W94 (Safe.wr W92 (Safe.ext E90 w89.held (Safe.new (Nat.le_of_eq g90.symm))) w91.held (Safe.ext E90 w89.held (Safe.new (Nat.le_of_eq g90.symm)))) w93.held (Safe.wr W92 (Safe.ext E90 w89.held (Safe.new (Nat.le_of_eq g90.symm))) w91.held (Safe.ext E90 w89.held (Safe.new (Nat.le_of_eq g90.symm)))))) w97.held (Safe.wr W96 (Safe.wr W94 (Safe.wr W92 (Safe.ext E90 w89.held (Safe.new (Nat.le_of_eq g90.symm))) w91.held (Safe.ext E90 w89.held (Safe.new (Nat.le_of_eq g90.symm)))) w93.held (Safe.wr W92 (Safe.ext E90 w89.held (Safe.new (Nat.le_of_eq g90.symm))) w91.held (Safe.ext E90 w89.held (Safe.new (Nat.le_of_eq g90.symm))))) w95.held (Safe.wr W94 (Safe.wr W92 (Safe.ext E90 w89.held (Safe.new (Nat.le_of_eq g90.symm))) w91.held (Safe.ext E90 w89.held (Safe.new (Nat.le_of_eq g90.symm)))) w93.held (Safe.wr W92 (Safe.ext E90 w89.held (Safe.new (Nat.le_of_eq g90.symm))) w91.held (Safe.ext E90 w89.held (Safe.ext E88 W0.held (Safe.new (Nat.le_of_eq g88.symm)))))))))) sf0)
                exact own_goWR X104 hh w105 hEL rfl hlk hx (t := (.object "java/lang/String")) rfl rfl Bd.returns (hb hby own_d3_309) ⟨N104, ((((((((((Keep.refl h0 []).ext E88).ext E90).wr W92 (Or.inr (Nat.le_trans E88.1 (Nat.le_of_eq g90.symm)))).wr W94 (Or.inr (Nat.le_trans E88.1 (Nat.le_of_eq g90.symm)))).wr W96 (Or.inr (Nat.le_trans E88.1 (Nat.le_of_eq g90.symm)))).wr W98 (Or.inr (Nat.le_trans E88.1 (Nat.le_of_eq g90.symm)))).wr W100 (Or.inr (Nat.le_trans E88.1 (Nat.le_of_eq g90.symm)))).wr W102 (Or.inr (Nat.le_trans E88.1 (Nat.le_of_eq g90.symm)))).trans K104 (allS (Or.inr (Nat.le_trans (Nat.le_refl _) (Nat.le_of_eq g88.symm))) all0)), b88, t104, kb104, _, _, rfl, A104.lt, E104, F104, C104, A104, (by rw [own_bs, if_neg hc15, if_neg hc22, if_neg hc31, if_neg hc42, if_neg hc55, if_neg hc70, if_pos hc87]; exact StrChars.Road.codOf (n := 6) rfl (fun c hc => (hp c (List.mem_append_left [d6] hc)).2))⟩ (by decide) (by decide)
              · -- not: n = (6 : Int32)
                refine own_stW (g' := (mkF m 310 #[.val (.ref x), .val (.int n), .val (.int pos), .val (.int mu), .val (.int rep), .val (.int fl), .val (.int r1), .val (.int r3), .val (.int r5), .val (.int r7), .val (.int r9), .val (.int r11), .val (.int r13)] [])) (fun _ q => XS.icmpYes X14.here hx rfl (pc0 := 265) (pc' := 310) rfl (hb hby own_d3_265) rfl (feq hc87).2 (by decide) (by decide) (q)) ?_
                obtain ⟨T106, h106, X106, e106, E106, A106, D106, U106, st106⟩ := newO X14 hx W0.2.1 W0.2.2.1 (hw _ (List.mem_of_getElem? (i := 50) rfl)) (hw _ (List.mem_of_getElem? (i := 2) rfl)) (hw _ (List.mem_of_getElem? (i := 1) rfl)) e14 (g := (mkF m 310 #[.val (.ref x), .val (.int n), .val (.int pos), .val (.int mu), .val (.int rep), .val (.int fl), .val (.int r1), .val (.int r3), .val (.int r5), .val (.int r7), .val (.int r9), .val (.int r11), .val (.int r13)] [])) rfl (hb hby own_d3_310) (by decide) (by decide)
                obtain ⟨b106, g106⟩ : ∃ z, z = h0.size := ⟨_, rfl⟩
                rw [← g106] at A106 D106 U106 st106
                have w107 := W0.ext E106
                have F106_value : Fld Z h106 b106 "java/lang/String" "value" "[B" .null := D106 (Or.inr (hw _ (List.mem_of_getElem? (i := 4) rfl))) (ty := (.array .byte)) (by decide)
                have F106_coder : Fld Z h106 b106 "java/lang/String" "coder" "B" (.int (0 : Int32)) := D106 (Or.inr (hw _ (List.mem_of_getElem? (i := 5) rfl))) (ty := .byte) (by decide)
                refine own_stW (g' := (mkF m 313 #[.val (.ref x), .val (.int n), .val (.int pos), .val (.int mu), .val (.int rep), .val (.int fl), .val (.int r1), .val (.int r3), .val (.int r5), .val (.int r7), .val (.int r9), .val (.int r11), .val (.int r13)] [(.ref b106)])) st106 ?_
                refine own_stW (g' := (mkF m 316 #[.val (.ref x), .val (.int n), .val (.int pos), .val (.int mu), .val (.int rep), .val (.int fl), .val (.int r1), .val (.int r3), .val (.int r5), .val (.int r7), .val (.int r9), .val (.int r11), .val (.int r13)] [(.int (7 : Int32)), (.ref b106), (.ref b106)])) (fun _ q => XS.dup X106.here hx rfl (hb hby own_d3_313) rfl rfl (XS.bipush X106.here hx rfl (hb hby own_d3_314) (q))) ?_
                obtain ⟨T108, h108, k108, X108, e108, E108, A108, st108⟩ := newP X106 hx w107.2.1 (hw _ (List.mem_of_getElem? (i := 51) rfl)) e106 (g := (mkF m 316 #[.val (.ref x), .val (.int n), .val (.int pos), .val (.int mu), .val (.int rep), .val (.int fl), .val (.int r1), .val (.int r3), .val (.int r5), .val (.int r7), .val (.int r9), .val (.int r11), .val (.int r13)] [(.int (7 : Int32)), (.ref b106), (.ref b106)])) rfl (hb hby own_d3_316) rfl (by decide) (cap := 7) (by decide) (by decide) (by decide) (by decide)
                obtain ⟨b108, g108⟩ : ∃ z, z = h106.size := ⟨_, rfl⟩
                rw [← g108] at A108 st108
                have V108 : Arv Z h108 b108 k108 .char (7 : Int32) [(.int (0 : Int32)), (.int (0 : Int32)), (.int (0 : Int32)), (.int (0 : Int32)), (.int (0 : Int32)), (.int (0 : Int32)), (.int (0 : Int32))] (.int (0 : Int32)) := (Arv.new A108 (by decide)).pad (pad_rep [] (.int (0 : Int32)) 7)
                have w109 := w107.ext E108
                refine own_stW (g' := (mkF m 318 #[.val (.ref x), .val (.int n), .val (.int pos), .val (.int mu), .val (.int rep), .val (.int fl), .val (.int r1), .val (.int r3), .val (.int r5), .val (.int r7), .val (.int r9), .val (.int r11), .val (.int r13)] [(.ref b108), (.ref b106), (.ref b106)])) st108 ?_
                refine own_stW (g' := (mkF m 322 #[.val (.ref x), .val (.int n), .val (.int pos), .val (.int mu), .val (.int rep), .val (.int fl), .val (.int r1), .val (.int r3), .val (.int r5), .val (.int r7), .val (.int r9), .val (.int r11), .val (.int r13)] [(.int r1), (.int (0 : Int32)), (.ref b108), (.ref b108), (.ref b106), (.ref b106)])) (fun _ q => XS.dup X108.here hx rfl (hb hby own_d3_318) rfl rfl (XS.iconst X108.here hx rfl (hb hby own_d3_319) (XS.iload X108.here hx rfl (hb hby own_d3_320) rfl (q)))) ?_
                obtain ⟨T110, h110, X110, e110, V110, W110, st110⟩ := own_cast X108 hx w109.2.1 e108 V108 (j := (0 : Int32)) (x := r1) ⟨by decide, by decide⟩ 0 rfl (Nat.le_of_ble_eq_true rfl) (pc := 322) (Ls := #[.val (.ref x), .val (.int n), .val (.int pos), .val (.int mu), .val (.int rep), .val (.int fl), .val (.int r1), .val (.int r3), .val (.int r5), .val (.int r7), .val (.int r9), .val (.int r11), .val (.int r13)]) (rest := [(.ref b108), (.ref b106), (.ref b106)]) (hb hby own_d3_322)
                replace V110 : Arv Z h110 b108 k108 .char (7 : Int32) [(.int d0), (.int (0 : Int32)), (.int (0 : Int32)), (.int (0 : Int32)), (.int (0 : Int32)), (.int (0 : Int32)), (.int (0 : Int32))] (.int (0 : Int32)) := by rw [hd0, ← hr1]; exact V110
                have N110 := Fr.snoc X110 N0 (Nat.le_trans (Nat.le_trans Z0 E106.1) (Nat.le_of_eq g108.symm))
                have w111 := w109.wr W110 (Safe.arv w109.2.1.alike V108 (by simp))
                refine own_stW (g' := (mkF m 323 #[.val (.ref x), .val (.int n), .val (.int pos), .val (.int mu), .val (.int rep), .val (.int fl), .val (.int r1), .val (.int r3), .val (.int r5), .val (.int r7), .val (.int r9), .val (.int r11), .val (.int r13)] [(.ref b108), (.ref b106), (.ref b106)])) st110 ?_
                refine own_stW (g' := (mkF m 327 #[.val (.ref x), .val (.int n), .val (.int pos), .val (.int mu), .val (.int rep), .val (.int fl), .val (.int r1), .val (.int r3), .val (.int r5), .val (.int r7), .val (.int r9), .val (.int r11), .val (.int r13)] [(.int r3), (.int (1 : Int32)), (.ref b108), (.ref b108), (.ref b106), (.ref b106)])) (fun _ q => XS.dup X110.here hx rfl (hb hby own_d3_323) rfl rfl (XS.iconst X110.here hx rfl (hb hby own_d3_324) (XS.iload X110.here hx rfl (hb hby own_d3_325) rfl (q)))) ?_
                obtain ⟨T112, h112, X112, e112, V112, W112, st112⟩ := own_cast X110 hx w111.2.1 e110 V110 (j := (1 : Int32)) (x := r3) ⟨by decide, by decide⟩ 1 rfl (Nat.le_of_ble_eq_true rfl) (pc := 327) (Ls := #[.val (.ref x), .val (.int n), .val (.int pos), .val (.int mu), .val (.int rep), .val (.int fl), .val (.int r1), .val (.int r3), .val (.int r5), .val (.int r7), .val (.int r9), .val (.int r11), .val (.int r13)]) (rest := [(.ref b108), (.ref b106), (.ref b106)]) (hb hby own_d3_327)
                replace V112 : Arv Z h112 b108 k108 .char (7 : Int32) [(.int d0), (.int d1), (.int (0 : Int32)), (.int (0 : Int32)), (.int (0 : Int32)), (.int (0 : Int32)), (.int (0 : Int32))] (.int (0 : Int32)) := by rw [hd1, ← hr3]; exact V112
                have N112 := Fr.snoc X112 N110 (Nat.le_trans (Nat.le_trans Z0 E106.1) (Nat.le_of_eq g108.symm))
                have w113 := w111.wr W112 (Safe.arv w111.2.1.alike V110 (by simp))
                refine own_stW (g' := (mkF m 328 #[.val (.ref x), .val (.int n), .val (.int pos), .val (.int mu), .val (.int rep), .val (.int fl), .val (.int r1), .val (.int r3), .val (.int r5), .val (.int r7), .val (.int r9), .val (.int r11), .val (.int r13)] [(.ref b108), (.ref b106), (.ref b106)])) st112 ?_
                refine own_stW (g' := (mkF m 332 #[.val (.ref x), .val (.int n), .val (.int pos), .val (.int mu), .val (.int rep), .val (.int fl), .val (.int r1), .val (.int r3), .val (.int r5), .val (.int r7), .val (.int r9), .val (.int r11), .val (.int r13)] [(.int r5), (.int (2 : Int32)), (.ref b108), (.ref b108), (.ref b106), (.ref b106)])) (fun _ q => XS.dup X112.here hx rfl (hb hby own_d3_328) rfl rfl (XS.iconst X112.here hx rfl (hb hby own_d3_329) (XS.iload X112.here hx rfl (hb hby own_d3_330) rfl (q)))) ?_
                obtain ⟨T114, h114, X114, e114, V114, W114, st114⟩ := own_cast X112 hx w113.2.1 e112 V112 (j := (2 : Int32)) (x := r5) ⟨by decide, by decide⟩ 2 rfl (Nat.le_of_ble_eq_true rfl) (pc := 332) (Ls := #[.val (.ref x), .val (.int n), .val (.int pos), .val (.int mu), .val (.int rep), .val (.int fl), .val (.int r1), .val (.int r3), .val (.int r5), .val (.int r7), .val (.int r9), .val (.int r11), .val (.int r13)]) (rest := [(.ref b108), (.ref b106), (.ref b106)]) (hb hby own_d3_332)
                replace V114 : Arv Z h114 b108 k108 .char (7 : Int32) [(.int d0), (.int d1), (.int d2), (.int (0 : Int32)), (.int (0 : Int32)), (.int (0 : Int32)), (.int (0 : Int32))] (.int (0 : Int32)) := by rw [hd2, ← hr5]; exact V114
                have N114 := Fr.snoc X114 N112 (Nat.le_trans (Nat.le_trans Z0 E106.1) (Nat.le_of_eq g108.symm))
                have w115 := w113.wr W114 (Safe.arv w113.2.1.alike V112 (by simp))
                refine own_stW (g' := (mkF m 333 #[.val (.ref x), .val (.int n), .val (.int pos), .val (.int mu), .val (.int rep), .val (.int fl), .val (.int r1), .val (.int r3), .val (.int r5), .val (.int r7), .val (.int r9), .val (.int r11), .val (.int r13)] [(.ref b108), (.ref b106), (.ref b106)])) st114 ?_
                refine own_stW (g' := (mkF m 337 #[.val (.ref x), .val (.int n), .val (.int pos), .val (.int mu), .val (.int rep), .val (.int fl), .val (.int r1), .val (.int r3), .val (.int r5), .val (.int r7), .val (.int r9), .val (.int r11), .val (.int r13)] [(.int r7), (.int (3 : Int32)), (.ref b108), (.ref b108), (.ref b106), (.ref b106)])) (fun _ q => XS.dup X114.here hx rfl (hb hby own_d3_333) rfl rfl (XS.iconst X114.here hx rfl (hb hby own_d3_334) (XS.iload X114.here hx rfl (hb hby own_d3_335) rfl (q)))) ?_
                obtain ⟨T116, h116, X116, e116, V116, W116, st116⟩ := own_cast X114 hx w115.2.1 e114 V114 (j := (3 : Int32)) (x := r7) ⟨by decide, by decide⟩ 3 rfl (Nat.le_of_ble_eq_true rfl) (pc := 337) (Ls := #[.val (.ref x), .val (.int n), .val (.int pos), .val (.int mu), .val (.int rep), .val (.int fl), .val (.int r1), .val (.int r3), .val (.int r5), .val (.int r7), .val (.int r9), .val (.int r11), .val (.int r13)]) (rest := [(.ref b108), (.ref b106), (.ref b106)]) (hb hby own_d3_337)
                replace V116 : Arv Z h116 b108 k108 .char (7 : Int32) [(.int d0), (.int d1), (.int d2), (.int d3), (.int (0 : Int32)), (.int (0 : Int32)), (.int (0 : Int32))] (.int (0 : Int32)) := by rw [hd3, ← hr7]; exact V116
                have N116 := Fr.snoc X116 N114 (Nat.le_trans (Nat.le_trans Z0 E106.1) (Nat.le_of_eq g108.symm))
                have w117 := w115.wr W116 (Safe.arv w115.2.1.alike V114 (by simp))
                refine own_stW (g' := (mkF m 338 #[.val (.ref x), .val (.int n), .val (.int pos), .val (.int mu), .val (.int rep), .val (.int fl), .val (.int r1), .val (.int r3), .val (.int r5), .val (.int r7), .val (.int r9), .val (.int r11), .val (.int r13)] [(.ref b108), (.ref b106), (.ref b106)])) st116 ?_
                refine own_stW (g' := (mkF m 342 #[.val (.ref x), .val (.int n), .val (.int pos), .val (.int mu), .val (.int rep), .val (.int fl), .val (.int r1), .val (.int r3), .val (.int r5), .val (.int r7), .val (.int r9), .val (.int r11), .val (.int r13)] [(.int r9), (.int (4 : Int32)), (.ref b108), (.ref b108), (.ref b106), (.ref b106)])) (fun _ q => XS.dup X116.here hx rfl (hb hby own_d3_338) rfl rfl (XS.iconst X116.here hx rfl (hb hby own_d3_339) (XS.iload X116.here hx rfl (hb hby own_d3_340) rfl (q)))) ?_
                obtain ⟨T118, h118, X118, e118, V118, W118, st118⟩ := own_cast X116 hx w117.2.1 e116 V116 (j := (4 : Int32)) (x := r9) ⟨by decide, by decide⟩ 4 rfl (Nat.le_of_ble_eq_true rfl) (pc := 342) (Ls := #[.val (.ref x), .val (.int n), .val (.int pos), .val (.int mu), .val (.int rep), .val (.int fl), .val (.int r1), .val (.int r3), .val (.int r5), .val (.int r7), .val (.int r9), .val (.int r11), .val (.int r13)]) (rest := [(.ref b108), (.ref b106), (.ref b106)]) (hb hby own_d3_342)
                replace V118 : Arv Z h118 b108 k108 .char (7 : Int32) [(.int d0), (.int d1), (.int d2), (.int d3), (.int d4), (.int (0 : Int32)), (.int (0 : Int32))] (.int (0 : Int32)) := by rw [hd4, ← hr9]; exact V118
                have N118 := Fr.snoc X118 N116 (Nat.le_trans (Nat.le_trans Z0 E106.1) (Nat.le_of_eq g108.symm))
                have w119 := w117.wr W118 (Safe.arv w117.2.1.alike V116 (by simp))
                refine own_stW (g' := (mkF m 343 #[.val (.ref x), .val (.int n), .val (.int pos), .val (.int mu), .val (.int rep), .val (.int fl), .val (.int r1), .val (.int r3), .val (.int r5), .val (.int r7), .val (.int r9), .val (.int r11), .val (.int r13)] [(.ref b108), (.ref b106), (.ref b106)])) st118 ?_
                refine own_stW (g' := (mkF m 347 #[.val (.ref x), .val (.int n), .val (.int pos), .val (.int mu), .val (.int rep), .val (.int fl), .val (.int r1), .val (.int r3), .val (.int r5), .val (.int r7), .val (.int r9), .val (.int r11), .val (.int r13)] [(.int r11), (.int (5 : Int32)), (.ref b108), (.ref b108), (.ref b106), (.ref b106)])) (fun _ q => XS.dup X118.here hx rfl (hb hby own_d3_343) rfl rfl (XS.iconst X118.here hx rfl (hb hby own_d3_344) (XS.iload X118.here hx rfl (hb hby own_d3_345) rfl (q)))) ?_
                obtain ⟨T120, h120, X120, e120, V120, W120, st120⟩ := own_cast X118 hx w119.2.1 e118 V118 (j := (5 : Int32)) (x := r11) ⟨by decide, by decide⟩ 5 rfl (Nat.le_of_ble_eq_true rfl) (pc := 347) (Ls := #[.val (.ref x), .val (.int n), .val (.int pos), .val (.int mu), .val (.int rep), .val (.int fl), .val (.int r1), .val (.int r3), .val (.int r5), .val (.int r7), .val (.int r9), .val (.int r11), .val (.int r13)]) (rest := [(.ref b108), (.ref b106), (.ref b106)]) (hb hby own_d3_347)
                replace V120 : Arv Z h120 b108 k108 .char (7 : Int32) [(.int d0), (.int d1), (.int d2), (.int d3), (.int d4), (.int d5), (.int (0 : Int32))] (.int (0 : Int32)) := by rw [hd5, ← hr11]; exact V120
                have N120 := Fr.snoc X120 N118 (Nat.le_trans (Nat.le_trans Z0 E106.1) (Nat.le_of_eq g108.symm))
                have w121 := w119.wr W120 (Safe.arv w119.2.1.alike V118 (by simp))
                refine own_stW (g' := (mkF m 348 #[.val (.ref x), .val (.int n), .val (.int pos), .val (.int mu), .val (.int rep), .val (.int fl), .val (.int r1), .val (.int r3), .val (.int r5), .val (.int r7), .val (.int r9), .val (.int r11), .val (.int r13)] [(.ref b108), (.ref b106), (.ref b106)])) st120 ?_
                refine own_stW (g' := (mkF m 353 #[.val (.ref x), .val (.int n), .val (.int pos), .val (.int mu), .val (.int rep), .val (.int fl), .val (.int r1), .val (.int r3), .val (.int r5), .val (.int r7), .val (.int r9), .val (.int r11), .val (.int r13)] [(.int r13), (.int (6 : Int32)), (.ref b108), (.ref b108), (.ref b106), (.ref b106)])) (fun _ q => XS.dup X120.here hx rfl (hb hby own_d3_348) rfl rfl (XS.bipush X120.here hx rfl (hb hby own_d3_349) (XS.iload X120.here hx rfl (hb hby own_d3_351) rfl (q)))) ?_
                obtain ⟨T122, h122, X122, e122, V122, W122, st122⟩ := own_cast X120 hx w121.2.1 e120 V120 (j := (6 : Int32)) (x := r13) ⟨by decide, by decide⟩ 6 rfl (Nat.le_of_ble_eq_true rfl) (pc := 353) (Ls := #[.val (.ref x), .val (.int n), .val (.int pos), .val (.int mu), .val (.int rep), .val (.int fl), .val (.int r1), .val (.int r3), .val (.int r5), .val (.int r7), .val (.int r9), .val (.int r11), .val (.int r13)]) (rest := [(.ref b108), (.ref b106), (.ref b106)]) (hb hby own_d3_353)
                replace V122 : Arv Z h122 b108 k108 .char (7 : Int32) [(.int d0), (.int d1), (.int d2), (.int d3), (.int d4), (.int d5), (.int d6)] (.int (0 : Int32)) := by rw [hd6, ← hr13]; exact V122
                have N122 := Fr.snoc X122 N120 (Nat.le_trans (Nat.le_trans Z0 E106.1) (Nat.le_of_eq g108.symm))
                have w123 := w121.wr W122 (Safe.arv w121.2.1.alike V120 (by simp))
                refine own_stW (g' := (mkF m 354 #[.val (.ref x), .val (.int n), .val (.int pos), .val (.int mu), .val (.int rep), .val (.int fl), .val (.int r1), .val (.int r3), .val (.int r5), .val (.int r7), .val (.int r9), .val (.int r11), .val (.int r13)] [(.ref b108), (.ref b106), (.ref b106)])) st122 ?_
                obtain ⟨_, L124, T124, X124, ⟨rfl, N124q, K124, E124, C124, t124, kb124, u124, v124, w124, F124, A124⟩, st124⟩ := own_cI X122 hx w123.2.1 rfl w123.2.2.1 (hw _ (List.mem_of_getElem? (i := 52) rfl)) (hw _ (List.mem_of_getElem? (i := 53) rfl)) (hw _ (List.mem_of_getElem? (i := 54) rfl)) (by decide) e122 (h := h122) (b := b106) (argsL := [(.ref b108)]) (rest := [(.ref b106)]) (StrChars.Road.backV (s := (s.setVm s.vm)) (W := 1) w123.2.1 hws (kI := 4) (hw _ (List.mem_of_getElem? (i := 2) rfl)) (cs := ([d0, d1, d2, d3, d4, d5, d6] : List Int32)) (bs := (([d0, d1, d2, d3, d4, d5, d6] : List Int32)).map (fun c => c.toInt8.toInt32)) (n := 7) (n0 := n0) (Nat.le_trans Z0 (Nat.le_of_eq g106.symm)) (Nat.le_trans Z0 (Nat.le_trans (Nat.le_trans (Nat.le_trans (Nat.le_trans (Nat.le_trans (Nat.le_trans (Nat.le_trans (Nat.le_trans E106.1 E108.1) (Keep.of_wr W110).1) (Keep.of_wr W112).1) (Keep.of_wr W114).1) (Keep.of_wr W116).1) (Keep.of_wr W118).1) (Keep.of_wr W120).1) (Keep.of_wr W122).1)) ((((((((A106.ext E108).wr W110).wr W112).wr W114).wr W116).wr W118).wr W120).wr W122) ((((((((F106_value.ext E108).other W110 (Or.inl (Nat.ne_of_lt (Nat.lt_of_lt_of_eq A106.lt g108.symm)))).other W112 (Or.inl (Nat.ne_of_lt (Nat.lt_of_lt_of_eq A106.lt g108.symm)))).other W114 (Or.inl (Nat.ne_of_lt (Nat.lt_of_lt_of_eq A106.lt g108.symm)))).other W116 (Or.inl (Nat.ne_of_lt (Nat.lt_of_lt_of_eq A106.lt g108.symm)))).other W118 (Or.inl (Nat.ne_of_lt (Nat.lt_of_lt_of_eq A106.lt g108.symm)))).other W120 (Or.inl (Nat.ne_of_lt (Nat.lt_of_lt_of_eq A106.lt g108.symm)))).other W122 (Or.inl (Nat.ne_of_lt (Nat.lt_of_lt_of_eq A106.lt g108.symm)))) ((((((((F106_coder.ext E108).other W110 (Or.inl (Nat.ne_of_lt (Nat.lt_of_lt_of_eq A106.lt g108.symm)))).other W112 (Or.inl (Nat.ne_of_lt (Nat.lt_of_lt_of_eq A106.lt g108.symm)))).other W114 (Or.inl (Nat.ne_of_lt (Nat.lt_of_lt_of_eq A106.lt g108.symm)))).other W116 (Or.inl (Nat.ne_of_lt (Nat.lt_of_lt_of_eq A106.lt g108.symm)))).other W118 (Or.inl (Nat.ne_of_lt (Nat.lt_of_lt_of_eq A106.lt g108.symm)))).other W120 (Or.inl (Nat.ne_of_lt (Nat.lt_of_lt_of_eq A106.lt g108.symm)))).other W122 (Or.inl (Nat.ne_of_lt (Nat.lt_of_lt_of_eq A106.lt g108.symm)))) V122 (O.ext (((((((((X00.ext E106).ext E108).wr W110 (Nat.le_trans (Nat.le_trans Z0 E106.1) (Nat.le_of_eq g108.symm))).wr W112 (Nat.le_trans (Nat.le_trans Z0 E106.1) (Nat.le_of_eq g108.symm))).wr W114 (Nat.le_trans (Nat.le_trans Z0 E106.1) (Nat.le_of_eq g108.symm))).wr W116 (Nat.le_trans (Nat.le_trans Z0 E106.1) (Nat.le_of_eq g108.symm))).wr W118 (Nat.le_trans (Nat.le_trans Z0 E106.1) (Nat.le_of_eq g108.symm))).wr W120 (Nat.le_trans (Nat.le_trans Z0 E106.1) (Nat.le_of_eq g108.symm))).wr W122 (Nat.le_trans (Nat.le_trans Z0 E106.1) (Nat.le_of_eq g108.symm))).2) hz rfl rfl (by decide) (by decide) (fun c hc => hp c (List.mem_append_left [] hc)) rfl (by decide) (by decide)) (pc := 354) (Ls := #[.val (.ref x), .val (.int n), .val (.int pos), .val (.int mu), .val (.int rep), .val (.int fl), .val (.int r1), .val (.int r3), .val (.int r5), .val (.int r7), .val (.int r9), .val (.int r11), .val (.int r13)]) (by rw [hml]; rfl) (lenOf own_pd4 rfl) rfl (Nat.le_of_eq rfl) (hb hby own_d3_354) (by decide) (by decide)
                refine own_stW (g' := (mkF m 357 #[.val (.ref x), .val (.int n), .val (.int pos), .val (.int mu), .val (.int rep), .val (.int fl), .val (.int r1), .val (.int r3), .val (.int r5), .val (.int r7), .val (.int r9), .val (.int r11), .val (.int r13)] [(.ref b106)])) st124 ?_
                have N124 := Fr.app N122 N124q
                have w125 := w123.keep K124 (sfS (Safe.wr W122 (Safe.wr W120 (Safe.wr W118 (Safe.wr W116 (Safe.wr W114 (Safe.wr W112 (Safe.wr W110 (Safe.ext E108 w107.held (Safe.new (Nat.le_of_eq g108.symm))) w109.held (Safe.ext E108 w107.held (Safe.new (Nat.le_of_eq g108.symm)))) w111.held (Safe.wr W110 (Safe.ext E108 w107.held (Safe.new (Nat.le_of_eq g108.symm))) w109.held (Safe.ext E108 w107.held (Safe.new (Nat.le_of_eq g108.symm))))) w113.held (Safe.wr W112 (Safe.wr W110 (Safe.ext E108 w107.held (Safe.new (Nat.le_of_eq g108.symm))) w109.held (Safe.ext E108 w107.held (Safe.new (Nat.le_of_eq g108.symm)))) w111.held (Safe.wr W110 (Safe.ext E108 w107.held (Safe.new (Nat.le_of_eq g108.symm))) w109.held (Safe.ext E108 w107.held (Safe.new (Nat.le_of_eq g108.symm)))))) w115.held (Safe.wr W114 (Safe.wr W112 (Safe.wr W110 (Safe.ext E108 w107.held (Safe.new (Nat.le_of_eq g108.symm))) w109.held (Safe.ext E108 w107.held (Safe.new (Nat.le_of_eq g108.symm)))) w111.held (Safe.wr W110 (Safe.ext E108 w107.held (Safe.new (Nat.le_of_eq g108.symm))) w109.held (Safe.ext E108 w107.held (Safe.new (Nat.le_of_eq g108.symm))))) w113.held (Safe.wr W112 (Safe.wr W110 (Safe.ext E108 w107.held (Safe.new (Nat.le_of_eq g108.symm))) w109.held (Safe.ext E108 w107.held (Safe.new (Nat.le_of_eq g108.symm)))) w111.held (Safe.wr W110 (Safe.ext E108 w107.held (Safe.new (Nat.le_of_eq g108.symm))) w109.held (Safe.ext E108 w107.held (Safe.new (Nat.le_of_eq g108.symm))))))) w117.held (Safe.wr W116 (Safe.wr W114 (Safe.wr W112 (Safe.wr W110 (Safe.ext E108 w107.held (Safe.new (Nat.le_of_eq g108.symm))) w109.held (Safe.ext E108 w107.held (Safe.new (Nat.le_of_eq g108.symm)))) w111.held (Safe.wr W110 (Safe.ext E108 w107.held (Safe.new (Nat.le_of_eq g108.symm))) w109.held (Safe.ext E108 w107.held (Safe.new (Nat.le_of_eq g108.symm))))) w113.held (Safe.wr W112 (Safe.wr W110 (Safe.ext E108 w107.held (Safe.new (Nat.le_of_eq g108.symm))) w109.held (Safe.ext E108 w107.held (Safe.new (Nat.le_of_eq g108.symm)))) w111.held (Safe.wr W110 (Safe.ext E108 w107.held (Safe.new (Nat.le_of_eq g108.symm))) w109.held (Safe.ext E108 w107.held (Safe.new (Nat.le_of_eq g108.symm)))))) w115.held (Safe.wr W114 (Safe.wr W112 (Safe.wr W110 (Safe.ext E108 w107.held (Safe.new (Nat.le_of_eq g108.symm))) w109.held (Safe.ext E108 w107.held (Safe.new (Nat.le_of_eq g108.symm)))) w111.held (Safe.wr W110 (Safe.ext E108 w107.held (Safe.new (Nat.le_of_eq g108.symm))) w109.held (Safe.ext E108 w107.held (Safe.new (Nat.le_of_eq g108.symm))))) w113.held (Safe.wr W112 (Safe.wr W110 (Safe.ext E108 w107.held (Safe.new (Nat.le_of_eq g108.symm))) w109.held (Safe.ext E108 w107.held (Safe.new (Nat.le_of_eq g108.symm)))) w111.held (Safe.wr W110 (Safe.ext E108 w107.held (Safe.new (Nat.le_of_eq g108.symm))) w109.held (Safe.ext E108 w107.held (Safe.new (Nat.le_of_eq g108.symm)))))))) w119.held (Safe.wr W118 (Safe.wr W116 (Safe.wr W114 (Safe.wr W112 (Safe.wr W110 (Safe.ext E108 w107.held (Safe.new (Nat.le_of_eq g108.symm))) w109.held (Safe.ext E108 w107.held (Safe.new (Nat.le_of_eq g108.symm)))) w111.held (Safe.wr W110 (Safe.ext E108 w107.held (Safe.new (Nat.le_of_eq g108.symm))) w109.held (Safe.ext E108 w107.held (Safe.new (Nat.le_of_eq g108.symm))))) w113.held (Safe.wr W112 (Safe.wr W110 (Safe.ext E108 w107.held (Safe.new (Nat.le_of_eq g108.symm))) w109.held (Safe.ext E108 w107.held (Safe.new (Nat.le_of_eq g108.symm)))) w111.held (Safe.wr W110 (Safe.ext E108 w107.held (Safe.new (Nat.le_of_eq g108.symm))) w109.held (Safe.ext E108 w107.held (Safe.new (Nat.le_of_eq g108.symm)))))) w115.held (Safe.wr W114 (Safe.wr W112 (Safe.wr W110 (Safe.ext E108 w107.held (Safe.new (Nat.le_of_eq g108.symm))) w109.held (Safe.ext E108 w107.held (Safe.new (Nat.le_of_eq g108.symm)))) w111.held (Safe.wr W110 (Safe.ext E108 w107.held (Safe.new (Nat.le_of_eq g108.symm))) w109.held (Safe.ext E108 w107.held (Safe.new (Nat.le_of_eq g108.symm))))) w113.held (Safe.wr W112 (Safe.wr W110 (Safe.ext E108 w107.held (Safe.new (Nat.le_of_eq g108.symm))) w109.held (Safe.ext E108 w107.held (Safe.new (Nat.le_of_eq g108.symm)))) w111.held (Safe.wr W110 (Safe.ext E108 w107.held (Safe.new (Nat.le_of_eq g108.symm))) w109.held (Safe.ext E108 w107.held (Safe.new (Nat.le_of_eq g108.symm))))))) w117.held (Safe.wr W116 (Safe.wr W114 (Safe.wr W112 (Safe.wr W110 (Safe.ext E108 w107.held (Safe.new (Nat.le_of_eq g108.symm))) w109.held (Safe.ext E108 w107.held (Safe.new (Nat.le_of_eq g108.symm)))) w111.held (Safe.wr W110 (Safe.ext E108 w107.held (Safe.new (Nat.le_of_eq g108.symm))) w109.held (Safe.ext E108 w107.held (Safe.new (Nat.le_of_eq g108.symm))))) w113.held (Safe.wr W112 (Safe.wr W110 (Safe.ext E108 w107.held (Safe.new (Nat.le_of_eq g108.symm))) w109.held (Safe.ext E108 w107.held (Safe.new (Nat.le_of_eq g108.symm)))) w111.held (Safe.wr W110 (Safe.ext E108 w107.held (Safe.new (Nat.le_of_eq g108.symm))) w109.held (Safe.ext E108 w107.held (Safe.new (Nat.le_of_eq g108.symm)))))) w115.held (Safe.wr W114 (Safe.wr W112 (Safe.wr W110 (Safe.ext E108 w107.held (Safe.new (Nat.le_of_eq g108.symm))) w109.held (Safe.ext E108 w107.held (Safe.new (Nat.le_of_eq g108.symm)))) w111.held (Safe.wr W110 (Safe.ext E108 w107.held (Safe.new (Nat.le_of_eq g108.symm))) w109.held (Safe.ext E108 w107.held (Safe.new (Nat.le_of_eq g108.symm))))) w113.held (Safe.wr W112 (Safe.wr W110 (Safe.ext E108 w107.held (Safe.new (Nat.le_of_eq g108.symm))) w109.held (Safe.ext E108 w107.held (Safe.new (Nat.le_of_eq g108.symm)))) w111.held (Safe.wr W110 (Safe.ext E108 w107.held (Safe.new (Nat.le_of_eq g108.symm))) w109.held (Safe.ext E108 w107.held (Safe.new (Nat.le_of_eq g108.symm))))))))) w121.held (Safe.wr W120 (Safe.wr W118 (Safe.wr W116 (Safe.wr W114 (Safe.wr W112 (Safe.wr W110 (Safe.ext E108 w107.held (Safe.new (Nat.le_of_eq g108.symm))) w109.held (Safe.ext E108 w107.held (Safe.new (Nat.le_of_eq g108.symm)))) w111.held (Safe.wr W110 (Safe.ext E108 w107.held (Safe.new (Nat.le_of_eq g108.symm))) w109.held (Safe.ext E108 w107.held (Safe.new (Nat.le_of_eq g108.symm))))) w113.held (Safe.wr W112 (Safe.wr W110 (Safe.ext E108 w107.held (Safe.new (Nat.le_of_eq g108.symm))) w109.held (Safe.ext E108 w107.held (Safe.new (Nat.le_of_eq g108.symm)))) w111.held (Safe.wr W110 (Safe.ext E108 w107.held (Safe.new (Nat.le_of_eq g108.symm))) w109.held (Safe.ext E108 w107.held (Safe.new (Nat.le_of_eq g108.symm)))))) w115.held (Safe.wr W114 (Safe.wr W112 (Safe.wr W110 (Safe.ext E108 w107.held (Safe.new (Nat.le_of_eq g108.symm))) w109.held (Safe.ext E108 w107.held (Safe.new (Nat.le_of_eq g108.symm)))) w111.held (Safe.wr W110 (Safe.ext E108 w107.held (Safe.new (Nat.le_of_eq g108.symm))) w109.held (Safe.ext E108 w107.held (Safe.new (Nat.le_of_eq g108.symm))))) w113.held (Safe.wr W112 (Safe.wr W110 (Safe.ext E108 w107.held (Safe.new (Nat.le_of_eq g108.symm))) w109.held (Safe.ext E108 w107.held (Safe.new (Nat.le_of_eq g108.symm)))) w111.held (Safe.wr W110 (Safe.ext E108 w107.held (Safe.new (Nat.le_of_eq g108.symm))) w109.held (Safe.ext E108 w107.held (Safe.new (Nat.le_of_eq g108.symm))))))) w117.held (Safe.wr W116 (Safe.wr W114 (Safe.wr W112 (Safe.wr W110 (Safe.ext E108 w107.held (Safe.new (Nat.le_of_eq g108.symm))) w109.held (Safe.ext E108 w107.held (Safe.new (Nat.le_of_eq g108.symm)))) w111.held (Safe.wr W110 (Safe.ext E108 w107.held (Safe.new (Nat.le_of_eq g108.symm))) w109.held (Safe.ext E108 w107.held (Safe.new (Nat.le_of_eq g108.symm))))) w113.held (Safe.wr W112 (Safe.wr W110 (Safe.ext E108 w107.held (Safe.new (Nat.le_of_eq g108.symm))) w109.held (Safe.ext E108 w107.held (Safe.new (Nat.le_of_eq g108.symm)))) w111.held (Safe.wr W110 (Safe.ext E108 w107.held (Safe.new (Nat.le_of_eq g108.symm))) w109.held (Safe.ext E108 w107.held (Safe.new (Nat.le_of_eq g108.symm)))))) w115.held (Safe.wr W114 (Safe.wr W112 (Safe.wr W110 (Safe.ext E108 w107.held (Safe.new (Nat.le_of_eq g108.symm))) w109.held (Safe.ext E108 w107.held (Safe.new (Nat.le_of_eq g108.symm)))) w111.held (Safe.wr W110 (Safe.ext E108 w107.held (Safe.new (Nat.le_of_eq g108.symm))) w109.held (Safe.ext E108 w107.held (Safe.new (Nat.le_of_eq g108.symm))))) w113.held (Safe.wr W112 (Safe.wr W110 (Safe.ext E108 w107.held (Safe.new (Nat.le_of_eq g108.symm))) w109.held (Safe.ext E108 w107.held (Safe.new (Nat.le_of_eq g108.symm)))) w111.held (Safe.wr W110 (Safe.ext E108 w107.held (Safe.new (Nat.le_of_eq g108.symm))) w109.held (Safe.ext E108 w107.held (Safe.new (Nat.le_of_eq g108.symm)))))))) w119.held (Safe.wr W118 (Safe.wr W116 (Safe.wr W114 (Safe.wr W112 (Safe.wr W110 (Safe.ext E108 w107.held (Safe.new (Nat.le_of_eq g108.symm))) w109.held (Safe.ext E108 w107.held (Safe.new (Nat.le_of_eq g108.symm)))) w111.held (Safe.wr W110 (Safe.ext E108 w107.held (Safe.new (Nat.le_of_eq g108.symm))) w109.held (Safe.ext E108 w107.held (Safe.new (Nat.le_of_eq g108.symm))))) w113.held (Safe.wr W112 (Safe.wr W110 (Safe.ext E108 w107.held (Safe.new (Nat.le_of_eq g108.symm))) w109.held (Safe.ext E108 w107.held (Safe.new (Nat.le_of_eq g108.symm)))) w111.held (Safe.wr W110 (Safe.ext E108 w107.held (Safe.new (Nat.le_of_eq g108.symm))) w109.held (Safe.ext E108 w107.held (Safe.new (Nat.le_of_eq g108.symm)))))) w115.held (Safe.wr W114 (Safe.wr W112 (Safe.wr W110 (Safe.ext E108 w107.held (Safe.new (Nat.le_of_eq g108.symm))) w109.held (Safe.ext E108 w107.held (Safe.new (Nat.le_of_eq g108.symm)))) w111.held (Safe.wr W110 (Safe.ext E108 w107.held (Safe.new (Nat.le_of_eq g108.symm))) w109.held (Safe.ext E108 w107.held (Safe.new (Nat.le_of_eq g108.symm))))) w113.held (Safe.wr W112 (Safe.wr W110 (Safe.ext E108 w107.held (Safe.new (Nat.le_of_eq g108.symm))) w109.held (Safe.ext E108 w107.held (Safe.new (Nat.le_of_eq g108.symm)))) w111.held (Safe.wr W110 (Safe.ext E108 w107.held (Safe.new (Nat.le_of_eq g108.symm))) w109.held (Safe.ext E108 w107.held (Safe.new (Nat.le_of_eq g108.symm))))))) w117.held (Safe.wr W116 (Safe.wr W114 (Safe.wr W112 (Safe.wr W110 (Safe.ext E108 w107.held (Safe.new (Nat.le_of_eq g108.symm))) w109.held (Safe.ext E108 w107.held (Safe.new (Nat.le_of_eq g108.symm)))) w111.held (Safe.wr W110 (Safe.ext E108 w107.held (Safe.new (Nat.le_of_eq g108.symm))) w109.held (Safe.ext E108 w107.held (Safe.new (Nat.le_of_eq g108.symm))))) w113.held (Safe.wr W112 (Safe.wr W110 (Safe.ext E108 w107.held (Safe.new (Nat.le_of_eq g108.symm))) w109.held (Safe.ext E108 w107.held (Safe.new (Nat.le_of_eq g108.symm)))) w111.held (Safe.wr W110 (Safe.ext E108 w107.held (Safe.new (Nat.le_of_eq g108.symm))) w109.held (Safe.ext E108 w107.held (Safe.new (Nat.le_of_eq g108.symm)))))) w115.held (Safe.wr W114 (Safe.wr W112 (Safe.wr W110 (Safe.ext E108 w107.held (Safe.new (Nat.le_of_eq g108.symm))) w109.held (Safe.ext E108 w107.held (Safe.new (Nat.le_of_eq g108.symm)))) w111.held (Safe.wr W110 (Safe.ext E108 w107.held (Safe.new (Nat.le_of_eq g108.symm))) w109.held (Safe.ext E108 w107.held (Safe.new (Nat.le_of_eq g108.symm))))) w113.held (Safe.wr W112 (Safe.wr W110 (Safe.ext E108 w107.held (Safe.new (Nat.le_of_eq g108.symm))) w109.held (Safe.ext E108 w107.held (Safe.new (Nat.le_of_eq g108.symm)))) w111.held (Safe.wr W110 (Safe.ext E108 w107.held (Safe.new (Nat.le_of_eq g108.symm))) w109.held (Safe.ext E108 w107.held (Safe.ext E106 W0.held (Safe.new (Nat.le_of_eq g106.symm))))))))))) sf0)
                exact own_goWR X124 hh w125 hEL rfl hlk hx (t := (.object "java/lang/String")) rfl rfl Bd.returns (hb hby own_d3_357) ⟨N124, (((((((((((Keep.refl h0 []).ext E106).ext E108).wr W110 (Or.inr (Nat.le_trans E106.1 (Nat.le_of_eq g108.symm)))).wr W112 (Or.inr (Nat.le_trans E106.1 (Nat.le_of_eq g108.symm)))).wr W114 (Or.inr (Nat.le_trans E106.1 (Nat.le_of_eq g108.symm)))).wr W116 (Or.inr (Nat.le_trans E106.1 (Nat.le_of_eq g108.symm)))).wr W118 (Or.inr (Nat.le_trans E106.1 (Nat.le_of_eq g108.symm)))).wr W120 (Or.inr (Nat.le_trans E106.1 (Nat.le_of_eq g108.symm)))).wr W122 (Or.inr (Nat.le_trans E106.1 (Nat.le_of_eq g108.symm)))).trans K124 (allS (Or.inr (Nat.le_trans (Nat.le_refl _) (Nat.le_of_eq g106.symm))) all0)), b106, t124, kb124, _, _, rfl, A124.lt, E124, F124, C124, A124, (by rw [own_bs, if_neg hc15, if_neg hc22, if_neg hc31, if_neg hc42, if_neg hc55, if_neg hc70, if_neg hc87]; exact StrChars.Road.codOf (n := 7) rfl (fun c hc => (hp c (List.mem_append_left [] hc)).2))⟩ (by decide) (by decide)
abbrev own_shared : List Int32 := [115, 104, 97, 114, 101, 100]
abbrev own_fresh : List Int32 := [102, 114, 101, 115, 104]
abbrev own_vsS : List Value := [(.int (115 : Int32)), (.int (104 : Int32)), (.int (97 : Int32)), (.int (114 : Int32)), (.int (101 : Int32)), (.int (100 : Int32))]
abbrev own_vsF : List Value := [(.int (102 : Int32)), (.int (114 : Int32)), (.int (101 : Int32)), (.int (115 : Int32)), (.int (104 : Int32))]
theorem own_codS : StrChars.Road.CodA own_shared (0 : Int32) (6 : Int32) own_vsS := Or.inl ⟨rfl, rfl, rfl, by decide⟩
theorem own_codF : StrChars.Road.CodA own_fresh (0 : Int32) (5 : Int32) own_vsF := Or.inl ⟨rfl, rfl, rfl, by decide⟩
theorem own_hbS : ∀ c ∈ own_shared, ¬ c < 0 ∧ ¬ (65535 : Int32) < c := by decide
theorem own_hbF : ∀ c ∈ own_fresh, ¬ c < 0 ∧ ¬ (65535 : Int32) < c := by decide
theorem own_r1 {P : Prop} [Decidable P] {r : Int32} (h : r = if P then (1 : Int32) else (0 : Int32)) (q : ¬ r = (0 : Int32)) : P := by
  by_cases c : P
  · exact c
  · rw [if_neg c] at h; exact absurd h q
theorem own_r0 {P : Prop} [Decidable P] {r : Int32} (h : r = if P then (1 : Int32) else (0 : Int32)) (q : r = (0 : Int32)) : ¬ P := fun c => by
  rw [if_pos c] at h; rw [h] at q; exact absurd q (by decide)
theorem own_ef4 (m : MethodId)  : entryFrame m #[] 0 = mkF m 0 #[] [] := by first | (simp [entryFrame, mkF, argsToLocals, Value.category, maxLocals]; done) | rfl
theorem own_pn2 : plainName "org/proofstand/runner/VmMode" = true := by first | (simp [plainName, overriddenIn]; done) | decide +kernel
abbrev own_Q_vals (Z : State) (aV aS aF : Addr) (kv : ClassId) (n0 : Nat) (h0 : Heap) : Option Value → Heap → List Loc → Prop := fun v h L => Fr n0 L ∧ Keep h0 h [] ∧ ∃ b, v = some (.ref b) ∧ h0.size ≤ b ∧ Arv Z h b kv (.object "org/proofstand/runner/VmMode") (2 : Int32) [(.ref aS), (.ref aF)] .null
theorem own_d4_0 : decode prog_100_method_1_code 0 = .ok (.getstatic 10, 3) := by decide +kernel
theorem own_d4_3 : decode prog_100_method_1_code 3 = .ok (.invokevirtual 14, 3) := by decide +kernel
theorem own_d4_6 : decode prog_100_method_1_code 6 = .ok (.checkcast 15, 3) := by decide +kernel
theorem own_d4_9 : decode prog_100_method_1_code 9 = .ok (.areturn, 1) := by decide +kernel
set_option maxRecDepth 65536 in
set_option maxHeartbeats 40000000 in
theorem own_rm_vals (l : Launch) (Z : State) (a0 : Array Value) (hw : ∀ d ∈ tables_1, d.before a0 Z = true) (ws : List Jvm.Cond) (aV aS aF : Addr) (kv : ClassId) (n0 : Nat) (h0 : Heap) (Z0 : n0 ≤ h0.size) (X00 : Old Z n0 h0) (OV : Sta Z Z.heap "org/proofstand/runner/VmMode" "$VALUES" "[Lorg/proofstand/runner/VmMode;" (.ref aV)) (VV : Arv Z Z.heap aV kv (.object "org/proofstand/runner/VmMode") (2 : Int32) [(.ref aS), (.ref aF)] .null) (EV : Exa Z Z.heap aV "[Lorg/proofstand/runner/VmMode;") :
    MetFree l (⟨"org/proofstand/runner/VmMode", "values", "()[Lorg/proofstand/runner/VmMode;"⟩ : MethodName) (head1 (Jvm.Cond.code (⟨"org/proofstand/runner/VmMode", "values", "()[Lorg/proofstand/runner/VmMode;"⟩ : MethodName) prog_100_method_1_code 0 (some (.array (.object "org/proofstand/runner/VmMode"))) :: ws) ({ frames := 1, cells := 1, slots := 2, locals := 14 } : Room)) (fun aa U => aa = #[] ∧ Z.Warmed39 U.vm ∧ U.heap = h0) (fun _ _ _ _ _ => True) (fun _ U o_ U' => ∃ v L, o_ = .returned v ∧ (own_Q_vals Z aV aS aF kv n0 h0) v U'.heap L ∧ FrameEnd U o_ U' L ({ frames := 1, cells := 1, slots := 2, locals := 14 } : Room).cells ({ frames := 1, cells := 1, slots := 2, locals := 14 } : Room).slots) := by
  refine MetFree.of_bodySF (plainFor_of_name own_pn2) hisR ?_
  intro p e s m args below meth c s₁ Bd hml0 hP hK
  obtain ⟨rfl, hZ, hh⟩ := hP
  have hx := Bd.exec
  have hby := Bd.bytes
  have hml : c.maxLocals = 0 := hml0
  have hlk : meth.locks = false := BodyLoose.notSynchronized Bd
  have hown : s.vm.findClass "org/proofstand/runner/VmMode" = some m.cls := findClass_of_methodNamed Bd.named
  have hnm := (name_of_methodNamed Bd.named Bd.method).1
  have X0 : Stand p l e ({ frames := 1, cells := 1, slots := 2, locals := 14 } : Room) s m #[] below meth c s₁ [] 0 0 := Stand.of_body Bd
  have e0 : s₁.heap = h0 := by rw [← hh, Bd.state]; rfl
  rw [own_ef4 m ]
  show own_Go p e below s ({ frames := 1, cells := 1, slots := 2, locals := 14 } : Room).cells ({ frames := 1, cells := 1, slots := 2, locals := 14 } : Room).slots (own_Q_vals Z aV aS aF kv n0 h0) s₁ (mkF m 0 #[] [])
  have N0 := Fr.nil n0
  obtain ⟨T1, X1, e1, st1⟩ := getS2 X0 hx hZ hown (host := "") (Or.inl (hw _ (List.mem_of_getElem? (i := 79) rfl))) Via.refl e0 (OV.ext X00.2) (g := (mkF m 0 #[] [])) rfl (hb hby own_d4_0)
  refine own_st (g' := (mkF m 3 #[] [(.ref aV)])) st1 ?_
  obtain ⟨T2, h2, X2, e2, E2, V2, A2, st2⟩ := own_clone X1 hx hZ hown (hw _ (List.mem_of_getElem? (i := 81) rfl)) (hw _ (List.mem_of_getElem? (i := 82) rfl)) (hw _ (List.mem_of_getElem? (i := 86) rfl)) (hw _ (List.mem_of_getElem? (i := 84) rfl)) (hw _ (List.mem_of_getElem? (i := 85) rfl)) (hw _ (List.mem_of_getElem? (i := 87) rfl)) e1 (VV.ext X00.2) (EV.ext X00.2) (pc := 3) (Ls := #[]) (rest := []) (by rw [hml]; rfl) (hb hby own_d4_3) (by decide) (W := 0) (cap := 2) (Nat.le_of_eq rfl) (by decide) (by decide) (by decide) (by decide)
  obtain ⟨b2, g2⟩ : ∃ z, z = h0.size := ⟨_, rfl⟩
  rw [← g2] at V2 A2 st2
  refine own_st (g' := (mkF m 6 #[] [(.ref b2)])) st2 ?_
  obtain ⟨T3, X3, e3, st3⟩ := castY X2 hx hZ hown (hw _ (List.mem_of_getElem? (i := 91) rfl)) e2 (Ins.self A2) (g := (mkF m 6 #[] [(.ref b2)])) rfl rfl (hb hby own_d4_6)
  refine own_st (g' := (mkF m 9 #[] [(.ref b2)])) st3 ?_
  exact own_goR X3 hlk hx (t := (.array (.object "org/proofstand/runner/VmMode"))) rfl rfl Bd.returns (hb hby own_d4_9) (by rw [e3]; exact ⟨N0, ((Keep.refl h0 []).ext E2), b2, rfl, Nat.le_of_eq g2.symm, V2⟩) (by decide) (by decide)
theorem own_ef5 (m : MethodId) (x0 : Addr) : entryFrame m #[(.ref x0)] 1 = mkF m 0 #[.val (.ref x0)] [] := by first | (simp [entryFrame, mkF, argsToLocals, Value.category, maxLocals]; done) | rfl
theorem own_pn3 : plainName "java/util/Objects" = true := by first | (simp [plainName, overriddenIn]; done) | decide +kernel
theorem own_d5_0 : decode jdk_31_method_10_code 0 = .ok (.aload_n 0, 1) := by decide +kernel
theorem own_d5_1 : decode jdk_31_method_10_code 1 = .ok (.ifnonnull 11, 3) := by decide +kernel
theorem own_d5_12 : decode jdk_31_method_10_code 12 = .ok (.aload_n 0, 1) := by decide +kernel
theorem own_d5_13 : decode jdk_31_method_10_code 13 = .ok (.areturn, 1) := by decide +kernel
set_option maxRecDepth 65536 in
set_option maxHeartbeats 40000000 in
theorem own_rm_rnn (l : Launch) (Z : State) (a0 : Array Value) (hw : ∀ d ∈ tables_1, d.before a0 Z = true) (ws : List Jvm.Cond) (x : Addr) (h0 : Heap)  :
    MetFree l (⟨"java/util/Objects", "requireNonNull", "(Ljava/lang/Object;)Ljava/lang/Object;"⟩ : MethodName) (head1 (Jvm.Cond.code (⟨"java/util/Objects", "requireNonNull", "(Ljava/lang/Object;)Ljava/lang/Object;"⟩ : MethodName) jdk_31_method_10_code 1 (some (.object "java/lang/Object")) :: ws) ({ frames := 0, cells := 0, slots := 0, locals := 0 } : Room)) (fun aa U => aa = #[(.ref x)] ∧ Z.Warmed39 U.vm ∧ U.heap = h0) (fun _ _ _ _ _ => True) (fun _ U o_ U' => ∃ v L, o_ = .returned v ∧ (fun v h L => v = some (.ref x) ∧ L = [] ∧ h = h0) v U'.heap L ∧ FrameEnd U o_ U' L ({ frames := 0, cells := 0, slots := 0, locals := 0 } : Room).cells ({ frames := 0, cells := 0, slots := 0, locals := 0 } : Room).slots) := by
  refine MetFree.of_bodySF (plainFor_of_name own_pn3) hisR ?_
  intro p e s m args below meth c s₁ Bd hml0 hP hK
  obtain ⟨rfl, hZ, hh⟩ := hP
  have hx := Bd.exec
  have hby := Bd.bytes
  have hml : c.maxLocals = 1 := hml0
  have hlk : meth.locks = false := BodyLoose.notSynchronized Bd
  have hown : s.vm.findClass "java/util/Objects" = some m.cls := findClass_of_methodNamed Bd.named
  have hnm := (name_of_methodNamed Bd.named Bd.method).1
  have X0 : Stand p l e ({ frames := 0, cells := 0, slots := 0, locals := 0 } : Room) s m #[(.ref x)] below meth c s₁ [] 0 0 := Stand.of_body Bd
  have e0 : s₁.heap = h0 := by rw [← hh, Bd.state]; rfl
  rw [own_ef5 m x]
  show own_Go p e below s ({ frames := 0, cells := 0, slots := 0, locals := 0 } : Room).cells ({ frames := 0, cells := 0, slots := 0, locals := 0 } : Room).slots (fun v h L => v = some (.ref x) ∧ L = [] ∧ h = h0) s₁ (mkF m 0 #[.val (.ref x)] [])
  refine own_st (g' := (mkF m 13 #[.val (.ref x)] [(.ref x)])) (fun _ q => XS.aloadN X0.here hx rfl (hb hby own_d5_0) rfl rfl (XS.ifnonnullYes X0.here hx rfl (pc0 := 1) (pc' := 12) rfl (hb hby own_d5_1) rfl (by decide) (by decide) (XS.aloadN X0.here hx rfl (hb hby own_d5_12) rfl rfl (q)))) ?_
  exact own_goR X0 hlk hx (t := (.object "java/lang/Object")) rfl rfl Bd.returns (hb hby own_d5_13) ⟨rfl, rfl, e0⟩ (by decide) (by decide)
theorem own_ef6 (m : MethodId)  : entryFrame m #[] 1 = mkF m 0 #[.unset] [] := by first | (simp [entryFrame, mkF, argsToLocals, Value.category, maxLocals]; done) | rfl
theorem own_pn4 : plainName "java/util/Optional" = true := by first | (simp [plainName, overriddenIn]; done) | decide +kernel
theorem own_d6_0 : decode jdk_32_method_1_code 0 = .ok (.getstatic 1, 3) := by decide +kernel
theorem own_d6_3 : decode jdk_32_method_1_code 3 = .ok (.astore_n 0, 1) := by decide +kernel
theorem own_d6_4 : decode jdk_32_method_1_code 4 = .ok (.aload_n 0, 1) := by decide +kernel
theorem own_d6_5 : decode jdk_32_method_1_code 5 = .ok (.areturn, 1) := by decide +kernel
set_option maxRecDepth 65536 in
set_option maxHeartbeats 40000000 in
theorem own_rm_emp (l : Launch) (Z : State) (a0 : Array Value) (hw : ∀ d ∈ tables_1, d.before a0 Z = true) (ws : List Jvm.Cond) (aE : Addr) (n0 : Nat) (h0 : Heap) (X00 : Old Z n0 h0) (OE : Sta Z Z.heap "java/util/Optional" "EMPTY" "Ljava/util/Optional;" (.ref aE)) :
    MetFree l (⟨"java/util/Optional", "empty", "()Ljava/util/Optional;"⟩ : MethodName) (head1 (Jvm.Cond.code (⟨"java/util/Optional", "empty", "()Ljava/util/Optional;"⟩ : MethodName) jdk_32_method_1_code 1 (some (.object "java/util/Optional")) :: ws) ({ frames := 0, cells := 0, slots := 0, locals := 0 } : Room)) (fun aa U => aa = #[] ∧ Z.Warmed39 U.vm ∧ U.heap = h0) (fun _ _ _ _ _ => True) (fun _ U o_ U' => ∃ v L, o_ = .returned v ∧ (fun v h L => v = some (.ref aE) ∧ L = [] ∧ h = h0) v U'.heap L ∧ FrameEnd U o_ U' L ({ frames := 0, cells := 0, slots := 0, locals := 0 } : Room).cells ({ frames := 0, cells := 0, slots := 0, locals := 0 } : Room).slots) := by
  refine MetFree.of_bodySF (plainFor_of_name own_pn4) hisR ?_
  intro p e s m args below meth c s₁ Bd hml0 hP hK
  obtain ⟨rfl, hZ, hh⟩ := hP
  have hx := Bd.exec
  have hby := Bd.bytes
  have hml : c.maxLocals = 1 := hml0
  have hlk : meth.locks = false := BodyLoose.notSynchronized Bd
  have hown : s.vm.findClass "java/util/Optional" = some m.cls := findClass_of_methodNamed Bd.named
  have hnm := (name_of_methodNamed Bd.named Bd.method).1
  have X0 : Stand p l e ({ frames := 0, cells := 0, slots := 0, locals := 0 } : Room) s m #[] below meth c s₁ [] 0 0 := Stand.of_body Bd
  have e0 : s₁.heap = h0 := by rw [← hh, Bd.state]; rfl
  rw [own_ef6 m ]
  show own_Go p e below s ({ frames := 0, cells := 0, slots := 0, locals := 0 } : Room).cells ({ frames := 0, cells := 0, slots := 0, locals := 0 } : Room).slots (fun v h L => v = some (.ref aE) ∧ L = [] ∧ h = h0) s₁ (mkF m 0 #[.unset] [])
  have N0 := Fr.nil n0
  obtain ⟨T1, X1, e1, st1⟩ := getS2 X0 hx hZ hown (host := "") (Or.inl (hw _ (List.mem_of_getElem? (i := 108) rfl))) Via.refl e0 (OE.ext X00.2) (g := (mkF m 0 #[.unset] [])) rfl (hb hby own_d6_0)
  refine own_st (g' := (mkF m 3 #[.unset] [(.ref aE)])) st1 ?_
  refine own_st (g' := (mkF m 5 #[.val (.ref aE)] [(.ref aE)])) (fun _ q => XS.astoreN X1.here hx rfl (hb hby own_d6_3) rfl rfl (l' := #[.val (.ref aE)]) rfl (XS.aloadN X1.here hx rfl (hb hby own_d6_4) rfl rfl (q))) ?_
  exact own_goR X1 hlk hx (t := (.object "java/util/Optional")) rfl rfl Bd.returns (hb hby own_d6_5) ⟨rfl, rfl, e1⟩ (by decide) (by decide)
abbrev own_Q_opi (Z : State) (o x : Addr) (n0 : Nat) (h0 : Heap) : Option Value → Heap → List Loc → Prop := fun v h L => v = none ∧ Fr n0 L ∧ Keep h0 h [o] ∧ Exa Z h o "java/util/Optional" ∧ Fld Z h o "java/util/Optional" "value" "Ljava/lang/Object;" (.ref x)
theorem own_d7_0 : decode jdk_32_method_2_code 0 = .ok (.aload_n 0, 1) := by decide +kernel
theorem own_d7_1 : decode jdk_32_method_2_code 1 = .ok (.invokespecial 7, 3) := by decide +kernel
theorem own_d7_4 : decode jdk_32_method_2_code 4 = .ok (.aload_n 0, 1) := by decide +kernel
theorem own_d7_5 : decode jdk_32_method_2_code 5 = .ok (.aload_n 1, 1) := by decide +kernel
theorem own_d7_6 : decode jdk_32_method_2_code 6 = .ok (.putfield 13, 3) := by decide +kernel
theorem own_d7_9 : decode jdk_32_method_2_code 9 = .ok (.return_, 1) := by decide +kernel
set_option maxRecDepth 65536 in
set_option maxHeartbeats 40000000 in
theorem own_rm_opi (l : Launch) (Z : State) (a0 : Array Value) (hw : ∀ d ∈ tables_1, d.before a0 Z = true) (ws : List Jvm.Cond) (o x : Addr) (n0 : Nat) (h0 : Heap) (Z0 : n0 ≤ h0.size) (X00 : Old Z n0 h0) (E : Exa Z h0 o "java/util/Optional") (F : Fld Z h0 o "java/util/Optional" "value" "Ljava/lang/Object;" .null) (go : n0 ≤ o) :
    MetFree l (⟨"java/util/Optional", "<init>", "(Ljava/lang/Object;)V"⟩ : MethodName) (head1 (Jvm.Cond.code (⟨"java/util/Optional", "<init>", "(Ljava/lang/Object;)V"⟩ : MethodName) jdk_32_method_2_code 2 none :: ws) ({ frames := 1, cells := 0, slots := 0, locals := 12 } : Room)) (fun aa U => aa = #[(.ref o), (.ref x)] ∧ Z.Warmed39 U.vm ∧ U.heap = h0) (fun _ _ _ _ _ => True) (fun _ U o_ U' => ∃ v L, o_ = .returned v ∧ (own_Q_opi Z o x n0 h0) v U'.heap L ∧ FrameEnd U o_ U' L ({ frames := 1, cells := 0, slots := 0, locals := 12 } : Room).cells ({ frames := 1, cells := 0, slots := 0, locals := 12 } : Room).slots) := by
  refine MetFree.of_bodySF (plainFor_of_name own_pn4) hisR ?_
  intro p e s m args below meth c s₁ Bd hml0 hP hK
  obtain ⟨rfl, hZ, hh⟩ := hP
  have hx := Bd.exec
  have hby := Bd.bytes
  have hml : c.maxLocals = 2 := hml0
  have hlk : meth.locks = false := BodyLoose.notSynchronized Bd
  have hown : s.vm.findClass "java/util/Optional" = some m.cls := findClass_of_methodNamed Bd.named
  have hnm := (name_of_methodNamed Bd.named Bd.method).1
  have X0 : Stand p l e ({ frames := 1, cells := 0, slots := 0, locals := 12 } : Room) s m #[(.ref o), (.ref x)] below meth c s₁ [] 0 0 := Stand.of_body Bd
  have e0 : s₁.heap = h0 := by rw [← hh, Bd.state]; rfl
  rw [own_ef2 m o x]
  show own_Go p e below s ({ frames := 1, cells := 0, slots := 0, locals := 12 } : Room).cells ({ frames := 1, cells := 0, slots := 0, locals := 12 } : Room).slots (own_Q_opi Z o x n0 h0) s₁ (mkF m 0 #[.val (.ref o), .val (.ref x)] [])
  have N0 := Fr.nil n0
  refine own_st (g' := (mkF m 1 #[.val (.ref o), .val (.ref x)] [(.ref o)])) (fun _ q => XS.aloadN X0.here hx rfl (hb hby own_d7_0) rfl rfl (q)) ?_
  obtain ⟨T1, X1, e1, st1⟩ := initO X0 hx hZ hown (hw _ (List.mem_of_getElem? (i := 131) rfl)) (hw _ (List.mem_of_getElem? (i := 60) rfl)) (hw _ (List.mem_of_getElem? (i := 61) rfl)) e0 (g := (mkF m 1 #[.val (.ref o), .val (.ref x)] [(.ref o)])) rfl (by rw [hml]; rfl) rfl (hb hby own_d7_1) (by decide) (W := 0) (by show 2 * 0 + _ ≤ _; exact Nat.le_of_eq rfl) (by decide)
  refine own_st (g' := (mkF m 4 #[.val (.ref o), .val (.ref x)] [])) st1 ?_
  refine own_st (g' := (mkF m 6 #[.val (.ref o), .val (.ref x)] [(.ref x), (.ref o)])) (fun _ q => XS.aloadN X1.here hx rfl (hb hby own_d7_4) rfl rfl (XS.aloadN X1.here hx rfl (hb hby own_d7_5) rfl rfl (q))) ?_
  obtain ⟨T2, h2, X2, e2, W2, st2⟩ := putF X1 hx hZ hown (host := "") (Or.inl (hw _ (List.mem_of_getElem? (i := 116) rfl))) Via.refl e1 F E (Or.inr ⟨(hw _ (List.mem_of_getElem? (i := 117) rfl)), rfl, hnm⟩) (hw _ (List.mem_of_getElem? (i := 122) rfl)) (ty := (.object "java/lang/Object")) (by decide) rfl rfl (g := (mkF m 6 #[.val (.ref o), .val (.ref x)] [(.ref x), (.ref o)])) rfl rfl (hb hby own_d7_6)
  have F2 : Fld Z h2 o "java/util/Optional" "value" "Ljava/lang/Object;" (.ref x) := F.same W2
  have N2 := Fr.snoc X2 N0 go
  refine own_st (g' := (mkF m 9 #[.val (.ref o), .val (.ref x)] [])) st2 ?_
  exact own_goV X2 hlk hx Bd.returns (hb hby own_d7_9) (by rw [e2]; exact ⟨rfl, N2, ((Keep.refl h0 [o]).wr W2 (Or.inl (List.mem_of_getElem? (i := 0) rfl))), (E.wr W2), F2⟩) (by decide) (by decide)
abbrev own_Q_opof (Z : State) (x : Addr) (n0 : Nat) (h0 : Heap) : Option Value → Heap → List Loc → Prop := fun v h L => Fr n0 L ∧ Keep h0 h [] ∧ ∃ o, v = some (.ref o) ∧ Exa Z h o "java/util/Optional" ∧ Fld Z h o "java/util/Optional" "value" "Ljava/lang/Object;" (.ref x)
theorem own_d8_0 : decode jdk_32_method_3_code 0 = .ok (.new 2, 3) := by decide +kernel
theorem own_d8_3 : decode jdk_32_method_3_code 3 = .ok (.dup, 1) := by decide +kernel
theorem own_d8_4 : decode jdk_32_method_3_code 4 = .ok (.aload_n 0, 1) := by decide +kernel
theorem own_d8_5 : decode jdk_32_method_3_code 5 = .ok (.invokestatic 17, 3) := by decide +kernel
theorem own_pd5 : parseMethodDescriptor "(Ljava/lang/Object;)Ljava/lang/Object;" = some ⟨[(.object "java/lang/Object")], some (.object "java/lang/Object")⟩ := by decide +kernel
theorem own_d8_8 : decode jdk_32_method_3_code 8 = .ok (.invokespecial 23, 3) := by decide +kernel
theorem own_pd6 : parseMethodDescriptor "(Ljava/lang/Object;)V" = some ⟨[(.object "java/lang/Object")], none⟩ := by decide +kernel
theorem own_d8_11 : decode jdk_32_method_3_code 11 = .ok (.areturn, 1) := by decide +kernel
set_option maxRecDepth 65536 in
set_option maxHeartbeats 40000000 in
theorem own_rm_opof (l : Launch) (Z : State) (a0 : Array Value) (hw : ∀ d ∈ tables_1, d.before a0 Z = true) (ws : List Jvm.Cond) (x : Addr) (n0 : Nat) (h0 : Heap) (Z0 : n0 ≤ h0.size) (X00 : Old Z n0 h0) :
    MetFree l (⟨"java/util/Optional", "of", "(Ljava/lang/Object;)Ljava/util/Optional;"⟩ : MethodName) (head1 (Jvm.Cond.code (⟨"java/util/Optional", "of", "(Ljava/lang/Object;)Ljava/util/Optional;"⟩ : MethodName) jdk_32_method_3_code 1 (some (.object "java/util/Optional")) :: ws) ({ frames := 2, cells := 1, slots := 1, locals := 26 } : Room)) (fun aa U => aa = #[(.ref x)] ∧ Z.Warmed39 U.vm ∧ U.heap = h0) (fun _ _ _ _ _ => True) (fun _ U o_ U' => ∃ v L, o_ = .returned v ∧ (own_Q_opof Z x n0 h0) v U'.heap L ∧ FrameEnd U o_ U' L ({ frames := 2, cells := 1, slots := 1, locals := 26 } : Room).cells ({ frames := 2, cells := 1, slots := 1, locals := 26 } : Room).slots) := by
  refine MetFree.of_bodySF (plainFor_of_name own_pn4) hisR ?_
  intro p e s m args below meth c s₁ Bd hml0 hP hK
  obtain ⟨rfl, hZ, hh⟩ := hP
  have hx := Bd.exec
  have hby := Bd.bytes
  have hml : c.maxLocals = 1 := hml0
  have hlk : meth.locks = false := BodyLoose.notSynchronized Bd
  have hown : s.vm.findClass "java/util/Optional" = some m.cls := findClass_of_methodNamed Bd.named
  have hnm := (name_of_methodNamed Bd.named Bd.method).1
  have X0 : Stand p l e ({ frames := 2, cells := 1, slots := 1, locals := 26 } : Room) s m #[(.ref x)] below meth c s₁ [] 0 0 := Stand.of_body Bd
  have e0 : s₁.heap = h0 := by rw [← hh, Bd.state]; rfl
  rw [own_ef5 m x]
  show own_Go p e below s ({ frames := 2, cells := 1, slots := 1, locals := 26 } : Room).cells ({ frames := 2, cells := 1, slots := 1, locals := 26 } : Room).slots (own_Q_opof Z x n0 h0) s₁ (mkF m 0 #[.val (.ref x)] [])
  have N0 := Fr.nil n0
  obtain ⟨T1, h1, X1, e1, E1, A1, D1, U1, st1⟩ := newO X0 hx hZ hown (hw _ (List.mem_of_getElem? (i := 121) rfl)) (hw _ (List.mem_of_getElem? (i := 122) rfl)) (hw _ (List.mem_of_getElem? (i := 106) rfl)) e0 (g := (mkF m 0 #[.val (.ref x)] [])) rfl (hb hby own_d8_0) (by decide) (by decide)
  obtain ⟨b1, g1⟩ : ∃ z, z = h0.size := ⟨_, rfl⟩
  rw [← g1] at A1 D1 U1 st1
  have F1_value : Fld Z h1 b1 "java/util/Optional" "value" "Ljava/lang/Object;" .null := D1 (Or.inr (hw _ (List.mem_of_getElem? (i := 117) rfl))) (ty := (.object "java/lang/Object")) (by decide)
  refine own_st (g' := (mkF m 3 #[.val (.ref x)] [(.ref b1)])) st1 ?_
  refine own_st (g' := (mkF m 5 #[.val (.ref x)] [(.ref x), (.ref b1), (.ref b1)])) (fun _ q => XS.dup X1.here hx rfl (hb hby own_d8_3) rfl rfl (XS.aloadN X1.here hx rfl (hb hby own_d8_4) rfl rfl (q))) ?_
  have K2 : own_Bk l ({ frames := 2, cells := 1, slots := 1, locals := 26 } : Room) p e below s #[(.ref x)] (⟨"java/util/Objects", "requireNonNull", "(Ljava/lang/Object;)Ljava/lang/Object;"⟩ : MethodName) 2 h1 #[(.ref x)] 0 0 (fun v h L => v = some (.ref x) ∧ L = [] ∧ h = h1) := backOf (s := s) (R := ({ frames := 2, cells := 1, slots := 1, locals := 26 } : Room)) (W := 2) (Q := (fun v h L => v = some (.ref x) ∧ L = [] ∧ h = h1)) (rm := ({ frames := 0, cells := 0, slots := 0, locals := 0 } : Room)) (own_rm_rnn l Z a0 hw [] x  h1  ) hZ (hw _ (List.mem_of_getElem? (i := 126) rfl)) (hw _ (List.mem_of_getElem? (i := 125) rfl)) (by decide) (by decide)
  obtain ⟨T3, X3, e3, st3⟩ := own_pure (own_cS X1 hx hZ hown (hw _ (List.mem_of_getElem? (i := 123) rfl)) (hw _ (List.mem_of_getElem? (i := 124) rfl)) (hw _ (List.mem_of_getElem? (i := 125) rfl)) (hw _ (List.mem_of_getElem? (i := 126) rfl)) (by decide) e1 (h := h1) (argsL := [(.ref x)]) (rest := [(.ref b1), (.ref b1)]) K2 (pc := 5) (Ls := #[.val (.ref x)]) (by rw [hml]; rfl) (lenOf own_pd5 rfl) rfl (Nat.le_of_eq rfl) (hb hby own_d8_5) (by decide) (by decide))
  refine own_st (g' := (mkF m 8 #[.val (.ref x)] [(.ref x), (.ref b1), (.ref b1)])) st3 ?_
  have K4 : own_Bk l ({ frames := 2, cells := 1, slots := 1, locals := 26 } : Room) p e below s #[(.ref x)] (⟨"java/util/Optional", "<init>", "(Ljava/lang/Object;)V"⟩ : MethodName) 1 h1 #[(.ref b1), (.ref x)] 0 0 (own_Q_opi Z b1 x n0 h1) := backOf (s := s) (R := ({ frames := 2, cells := 1, slots := 1, locals := 26 } : Room)) (W := 1) (Q := (own_Q_opi Z b1 x n0 h1)) (rm := ({ frames := 1, cells := 0, slots := 0, locals := 12 } : Room)) (own_rm_opi l Z a0 hw [] b1 x n0 h1 (Nat.le_trans Z0 E1.1) (X00.ext E1) A1 F1_value (Nat.le_trans Z0 (Nat.le_of_eq g1.symm))) hZ (hw _ (List.mem_of_getElem? (i := 130) rfl)) (hw _ (List.mem_of_getElem? (i := 106) rfl)) (by decide) (by decide)
  obtain ⟨_, L5, T5, X5, ⟨rfl, N5q, K5, E5, F5⟩, st5⟩ := own_cI X3 hx hZ rfl hown (hw _ (List.mem_of_getElem? (i := 127) rfl)) (hw _ (List.mem_of_getElem? (i := 128) rfl)) (hw _ (List.mem_of_getElem? (i := 130) rfl)) (by decide) e3 (h := h1) (b := b1) (argsL := [(.ref x)]) (rest := [(.ref b1)]) K4 (pc := 8) (Ls := #[.val (.ref x)]) (by rw [hml]; rfl) (lenOf own_pd6 rfl) rfl (Nat.le_of_eq rfl) (hb hby own_d8_8) (by decide) (by decide)
  have N5 := Fr.app N0 N5q
  refine own_st (g' := (mkF m 11 #[.val (.ref x)] [(.ref b1)])) st5 ?_
  exact own_goR X5 hlk hx (t := (.object "java/util/Optional")) rfl rfl Bd.returns (hb hby own_d8_11) ⟨N5, (((Keep.refl h0 []).ext E1).trans K5 (allS (Or.inr (Nat.le_trans (Nat.le_refl _) (Nat.le_of_eq g1.symm))) all0)), b1, rfl, E5, F5⟩ (by decide) (by decide)
theorem own_ef7 (m : MethodId) (x0 : Addr) : entryFrame m #[(.ref x0), .null] 3 = mkF m 0 #[.val (.ref x0), .val .null, .unset] [] := by first | (simp [entryFrame, mkF, argsToLocals, Value.category, maxLocals]; done) | rfl
theorem own_d9_0 : decode jdk_42_method_66_code 0 = .ok (.aload_n 0, 1) := by decide +kernel
theorem own_d9_1 : decode jdk_42_method_66_code 1 = .ok (.aload_n 1, 1) := by decide +kernel
theorem own_d9_2 : decode jdk_42_method_66_code 2 = .ok (.if_acmp .ne 5, 3) := by decide +kernel
theorem own_d9_7 : decode jdk_42_method_66_code 7 = .ok (.aload_n 1, 1) := by decide +kernel
theorem own_d9_8 : decode jdk_42_method_66_code 8 = .ok (.instanceof 10, 3) := by decide +kernel
theorem own_d9_11 : decode jdk_42_method_66_code 11 = .ok (.ifCond .eq 43, 3) := by decide +kernel
theorem own_d9_54 : decode jdk_42_method_66_code 54 = .ok (.iconst 0, 1) := by decide +kernel
theorem own_d9_55 : decode jdk_42_method_66_code 55 = .ok (.ireturn, 1) := by decide +kernel
def own_f_eqn  : Int32 := (0 : Int32)
set_option maxRecDepth 65536 in
set_option maxHeartbeats 40000000 in
theorem own_rm_eqn (l : Launch) (Z : State) (a0 : Array Value) (hw : ∀ d ∈ tables_1, d.before a0 Z = true) (ws : List Jvm.Cond) (x : Addr) (r : Int32) (h0 : Heap)  (hr : r = (own_f_eqn )) :
    MetFree l (⟨"java/lang/String", "equals", "(Ljava/lang/Object;)Z"⟩ : MethodName) (head1 (Jvm.Cond.code (⟨"java/lang/String", "equals", "(Ljava/lang/Object;)Z"⟩ : MethodName) jdk_42_method_66_code 3 (some .boolean) :: ws) ({ frames := 0, cells := 0, slots := 0, locals := 0 } : Room)) (fun aa U => aa = #[(.ref x), .null] ∧ Z.Warmed39 U.vm ∧ U.heap = h0) (fun _ _ _ _ _ => True) (fun _ U o_ U' => ∃ v L, o_ = .returned v ∧ (fun v h L => v = some (.int r) ∧ L = [] ∧ h = h0) v U'.heap L ∧ FrameEnd U o_ U' L ({ frames := 0, cells := 0, slots := 0, locals := 0 } : Room).cells ({ frames := 0, cells := 0, slots := 0, locals := 0 } : Room).slots) := by
  refine MetFree.of_bodySF (plainFor_of_name own_pn1) hisR ?_
  intro p e s m args below meth c s₁ Bd hml0 hP hK
  obtain ⟨rfl, hZ, hh⟩ := hP
  have hx := Bd.exec
  have hby := Bd.bytes
  have hml : c.maxLocals = 3 := hml0
  have hlk : meth.locks = false := BodyLoose.notSynchronized Bd
  have hown : s.vm.findClass "java/lang/String" = some m.cls := findClass_of_methodNamed Bd.named
  have hnm := (name_of_methodNamed Bd.named Bd.method).1
  have X0 : Stand p l e ({ frames := 0, cells := 0, slots := 0, locals := 0 } : Room) s m #[(.ref x), .null] below meth c s₁ [] 0 0 := Stand.of_body Bd
  have e0 : s₁.heap = h0 := by rw [← hh, Bd.state]; rfl
  rw [own_ef7 m x]
  show own_Go p e below s ({ frames := 0, cells := 0, slots := 0, locals := 0 } : Room).cells ({ frames := 0, cells := 0, slots := 0, locals := 0 } : Room).slots (fun v h L => v = some (.int r) ∧ L = [] ∧ h = h0) s₁ (mkF m 0 #[.val (.ref x), .val .null, .unset] [])
  refine own_st (g' := (mkF m 2 #[.val (.ref x), .val .null, .unset] [.null, (.ref x)])) (fun _ q => XS.aloadN X0.here hx rfl (hb hby own_d9_0) rfl rfl (XS.aloadN X0.here hx rfl (hb hby own_d9_1) rfl rfl (q))) ?_
  refine own_st (g' := (mkF m 8 #[.val (.ref x), .val .null, .unset] [.null])) (fun _ q => Jvm.RoadKit.acmp (g := (mkF m 2 #[.val (.ref x), .val .null, .unset] [.null, (.ref x)])) X0 hx rfl rfl rfl (pc0 := 2) (pc' := 7) (same := false) rfl (hb hby own_d9_2) rfl (decide_eq_false nofun) (by decide) (by decide) (XS.aloadN X0.here hx rfl (hb hby own_d9_7) rfl rfl (q))) ?_
  refine own_st (g' := (mkF m 11 #[.val (.ref x), .val .null, .unset] [(.int (0 : Int32))])) (X0.instanceofNull hx (g := (mkF m 8 #[.val (.ref x), .val .null, .unset] [.null])) rfl rfl (hb hby own_d9_8)) ?_
  refine own_st (g' := (mkF m 55 #[.val (.ref x), .val .null, .unset] [(.int (0 : Int32))])) (fun _ q => XS.ifYes X0.here hx rfl (pc0 := 11) (pc' := 54) rfl (hb hby own_d9_11) rfl ((if0 _ _).trans (teq (by decide : (0 : Int32) = (0 : Int32))).1) (by decide) (by decide) (XS.iconst X0.here hx rfl (hb hby own_d9_54) (q))) ?_
  exact own_goN X0 hlk hx (t := .boolean) (by simp) Bd.returns (hb hby own_d9_55) ⟨by subst hr; rfl, rfl, e0⟩ (by decide) (by decide)
theorem own_ef8 (m : MethodId)  : entryFrame m #[.null] 5 = mkF m 0 #[.val .null, .unset, .unset, .unset, .unset] [] := by first | (simp [entryFrame, mkF, argsToLocals, Value.category, maxLocals]; done) | rfl
abbrev own_Q_namedN (Z : State) (aV aS aF aE wS tS wF tF : Addr) (kv kS kF : ClassId) (z : Int32) (n0 : Nat) (h0 : Heap) : Option Value → Heap → List Loc → Prop := fun v h L => Fr n0 L ∧ Keep h0 h [] ∧ ∃ o, v = some (.ref o) ∧ Exa Z h o "java/util/Optional" ∧ Fld Z h o "java/util/Optional" "value" "Ljava/lang/Object;" .null
theorem own_d10_0 : decode prog_100_method_5_code 0 = .ok (.invokestatic 33, 3) := by decide +kernel
theorem own_pd7 : parseMethodDescriptor "()[Lorg/proofstand/runner/VmMode;" = some ⟨[], some (.array (.object "org/proofstand/runner/VmMode"))⟩ := by decide +kernel
theorem own_d10_3 : decode prog_100_method_5_code 3 = .ok (.astore_n 1, 1) := by decide +kernel
theorem own_d10_4 : decode prog_100_method_5_code 4 = .ok (.aload_n 1, 1) := by decide +kernel
theorem own_d10_5 : decode prog_100_method_5_code 5 = .ok (.arraylength, 1) := by decide +kernel
theorem own_d10_6 : decode prog_100_method_5_code 6 = .ok (.istore_n 2, 1) := by decide +kernel
theorem own_d10_7 : decode prog_100_method_5_code 7 = .ok (.iconst 0, 1) := by decide +kernel
theorem own_d10_8 : decode prog_100_method_5_code 8 = .ok (.istore_n 3, 1) := by decide +kernel
theorem own_d10_9 : decode prog_100_method_5_code 9 = .ok (.iload_n 3, 1) := by decide +kernel
theorem own_d10_10 : decode prog_100_method_5_code 10 = .ok (.iload_n 2, 1) := by decide +kernel
theorem own_d10_11 : decode prog_100_method_5_code 11 = .ok (.if_icmp .ge 32, 3) := by decide +kernel
theorem own_d10_14 : decode prog_100_method_5_code 14 = .ok (.aload_n 1, 1) := by decide +kernel
theorem own_d10_15 : decode prog_100_method_5_code 15 = .ok (.iload_n 3, 1) := by decide +kernel
theorem own_d10_16 : decode prog_100_method_5_code 16 = .ok (.aaload, 1) := by decide +kernel
theorem own_d10_17 : decode prog_100_method_5_code 17 = .ok (.astore 4, 2) := by decide +kernel
theorem own_d10_19 : decode prog_100_method_5_code 19 = .ok (.aload 4, 2) := by decide +kernel
theorem own_d10_21 : decode prog_100_method_5_code 21 = .ok (.getfield 29, 3) := by decide +kernel
theorem own_d10_24 : decode prog_100_method_5_code 24 = .ok (.aload_n 0, 1) := by decide +kernel
theorem own_d10_25 : decode prog_100_method_5_code 25 = .ok (.invokevirtual 37, 3) := by decide +kernel
theorem own_pd8 : parseMethodDescriptor "(Ljava/lang/Object;)Z" = some ⟨[(.object "java/lang/Object")], some .boolean⟩ := by decide +kernel
theorem own_d10_28 : decode prog_100_method_5_code 28 = .ok (.ifCond .eq 9, 3) := by decide +kernel
theorem own_d10_37 : decode prog_100_method_5_code 37 = .ok (.iinc 3 1, 3) := by decide +kernel
theorem own_d10_40 : decode prog_100_method_5_code 40 = .ok (.goto (-31), 3) := by decide +kernel
theorem own_d10_43 : decode prog_100_method_5_code 43 = .ok (.invokestatic 49, 3) := by decide +kernel
theorem own_pd9 : parseMethodDescriptor "()Ljava/util/Optional;" = some ⟨[], some (.object "java/util/Optional")⟩ := by decide +kernel
theorem own_d10_46 : decode prog_100_method_5_code 46 = .ok (.areturn, 1) := by decide +kernel
set_option maxRecDepth 65536 in
set_option maxHeartbeats 40000000 in
theorem own_rm_namedN (l : Launch) (Z : State) (a0 : Array Value) (hw : ∀ d ∈ tables_1, d.before a0 Z = true) (ws : List Jvm.Cond) (aV aS aF aE wS tS wF tF : Addr) (kv kS kF : ClassId) (z : Int32) (n0 : Nat) (h0 : Heap) (Z0 : n0 ≤ h0.size) (X00 : Old Z n0 h0) (O : Sta Z Z.heap "java/lang/String" "COMPACT_STRINGS" "Z" (.int z)) (hz : ¬ z = (0 : Int32)) (OV : Sta Z Z.heap "org/proofstand/runner/VmMode" "$VALUES" "[Lorg/proofstand/runner/VmMode;" (.ref aV)) (VV : Arv Z Z.heap aV kv (.object "org/proofstand/runner/VmMode") (2 : Int32) [(.ref aS), (.ref aF)] .null) (EV : Exa Z Z.heap aV "[Lorg/proofstand/runner/VmMode;") (OE : Sta Z Z.heap "java/util/Optional" "EMPTY" "Ljava/util/Optional;" (.ref aE)) (EE : Exa Z Z.heap aE "java/util/Optional") (FE : Fld Z Z.heap aE "java/util/Optional" "value" "Ljava/lang/Object;" .null) (ES : Exa Z Z.heap wS "java/lang/String") (FS : Fld Z Z.heap wS "java/lang/String" "value" "[B" (.ref tS)) (CS : Fld Z Z.heap wS "java/lang/String" "coder" "B" (.int (0 : Int32))) (KS : Arv Z Z.heap tS kS .byte (6 : Int32) own_vsS (.int (0 : Int32))) (MS : Fld Z Z.heap aS "org/proofstand/runner/VmMode" "word" "Ljava/lang/String;" (.ref wS)) (EMS : Exa Z Z.heap aS "org/proofstand/runner/VmMode") (EF : Exa Z Z.heap wF "java/lang/String") (FF : Fld Z Z.heap wF "java/lang/String" "value" "[B" (.ref tF)) (CF : Fld Z Z.heap wF "java/lang/String" "coder" "B" (.int (0 : Int32))) (KF : Arv Z Z.heap tF kF .byte (5 : Int32) own_vsF (.int (0 : Int32))) (MF : Fld Z Z.heap aF "org/proofstand/runner/VmMode" "word" "Ljava/lang/String;" (.ref wF)) (EMF : Exa Z Z.heap aF "org/proofstand/runner/VmMode") :
    MetFree l (⟨"org/proofstand/runner/VmMode", "named", "(Ljava/lang/String;)Ljava/util/Optional;"⟩ : MethodName) (head1 (Jvm.Cond.code (⟨"org/proofstand/runner/VmMode", "named", "(Ljava/lang/String;)Ljava/util/Optional;"⟩ : MethodName) prog_100_method_5_code 5 (some (.object "java/util/Optional")) :: ws) ({ frames := 2, cells := 1, slots := 2, locals := 25 } : Room)) (fun aa U => aa = #[.null] ∧ Z.Warmed39 U.vm ∧ U.heap = h0) (fun _ _ _ _ _ => True) (fun _ U o_ U' => ∃ v L, o_ = .returned v ∧ (own_Q_namedN Z aV aS aF aE wS tS wF tF kv kS kF z n0 h0) v U'.heap L ∧ FrameEnd U o_ U' L ({ frames := 2, cells := 1, slots := 2, locals := 25 } : Room).cells ({ frames := 2, cells := 1, slots := 2, locals := 25 } : Room).slots) := by
  refine MetFree.of_bodySF (plainFor_of_name own_pn2) hisR ?_
  intro p e s m args below meth c s₁ Bd hml0 hP hK
  obtain ⟨rfl, hZ, hh⟩ := hP
  have hx := Bd.exec
  have hby := Bd.bytes
  have hml : c.maxLocals = 5 := hml0
  have hlk : meth.locks = false := BodyLoose.notSynchronized Bd
  have hown : s.vm.findClass "org/proofstand/runner/VmMode" = some m.cls := findClass_of_methodNamed Bd.named
  have hnm := (name_of_methodNamed Bd.named Bd.method).1
  have X0 : Stand p l e ({ frames := 2, cells := 1, slots := 2, locals := 25 } : Room) s m #[.null] below meth c s₁ [] 0 0 := Stand.of_body Bd
  have e0 : s₁.heap = h0 := by rw [← hh, Bd.state]; rfl
  rw [own_ef8 m ]
  show own_Go p e below s ({ frames := 2, cells := 1, slots := 2, locals := 25 } : Room).cells ({ frames := 2, cells := 1, slots := 2, locals := 25 } : Room).slots (own_Q_namedN Z aV aS aF aE wS tS wF tF kv kS kF z n0 h0) s₁ (mkF m 0 #[.val .null, .unset, .unset, .unset, .unset] [])
  have N0 := Fr.nil n0
  have K1 : own_Bk l ({ frames := 2, cells := 1, slots := 2, locals := 25 } : Room) p e below s #[.null] (⟨"org/proofstand/runner/VmMode", "values", "()[Lorg/proofstand/runner/VmMode;"⟩ : MethodName) 0 h0 #[] 1 2 (own_Q_vals Z aV aS aF kv n0 h0) := backOf (s := s) (R := ({ frames := 2, cells := 1, slots := 2, locals := 25 } : Room)) (W := 0) (Q := (own_Q_vals Z aV aS aF kv n0 h0)) (rm := ({ frames := 1, cells := 1, slots := 2, locals := 14 } : Room)) (own_rm_vals l Z a0 hw [] aV aS aF kv n0 h0 Z0 X00 OV VV EV) hZ (hw _ (List.mem_of_getElem? (i := 78) rfl)) (hw _ (List.mem_of_getElem? (i := 74) rfl)) (by decide) (by decide)
  obtain ⟨_, L2, T2, X2, ⟨N2q, K2, x2, rfl, u2, A2⟩, st2⟩ := own_cS X0 hx hZ hown (hw _ (List.mem_of_getElem? (i := 76) rfl)) (hw _ (List.mem_of_getElem? (i := 77) rfl)) (hw _ (List.mem_of_getElem? (i := 74) rfl)) (hw _ (List.mem_of_getElem? (i := 78) rfl)) (by decide) e0 (h := h0) (argsL := []) (rest := []) K1 (pc := 0) (Ls := #[.val .null, .unset, .unset, .unset, .unset]) (by rw [hml]; rfl) (lenOf own_pd7 rfl) rfl (Nat.le_of_eq rfl) (hb hby own_d10_0) (by decide) (by decide)
  have N2 := Fr.app N0 N2q
  refine own_st (g' := (mkF m 3 #[.val .null, .unset, .unset, .unset, .unset] [(.ref x2)])) st2 ?_
  refine own_st (g' := (mkF m 5 #[.val .null, .val (.ref x2), .unset, .unset, .unset] [(.ref x2)])) (fun _ q => XS.astoreN X2.here hx rfl (hb hby own_d10_3) rfl rfl (l' := #[.val .null, .val (.ref x2), .unset, .unset, .unset]) rfl (XS.aloadN X2.here hx rfl (hb hby own_d10_4) rfl rfl (q))) ?_
  refine own_st (g' := (mkF m 6 #[.val .null, .val (.ref x2), .unset, .unset, .unset] [(.int (2 : Int32))])) (own_alen X2 hx hZ rfl A2 (hb hby own_d10_5)) ?_
  refine own_st (g' := (mkF m 16 #[.val .null, .val (.ref x2), .val (.int (2 : Int32)), .val (.int (0 : Int32)), .unset] [(.int (0 : Int32)), (.ref x2)])) (fun _ q => XS.istoreN X2.here hx rfl (hb hby own_d10_6) rfl (l' := #[.val .null, .val (.ref x2), .val (.int (2 : Int32)), .unset, .unset]) rfl (XS.iconst X2.here hx rfl (hb hby own_d10_7) (XS.istoreN X2.here hx rfl (hb hby own_d10_8) rfl (l' := #[.val .null, .val (.ref x2), .val (.int (2 : Int32)), .val (.int (0 : Int32)), .unset]) rfl (XS.iloadN X2.here hx rfl (hb hby own_d10_9) rfl (XS.iloadN X2.here hx rfl (hb hby own_d10_10) rfl (XS.icmpNo X2.here hx rfl (hb hby own_d10_11) rfl (tlt (by decide : (0 : Int32) < (2 : Int32))).2.1 (XS.aloadN X2.here hx rfl (hb hby own_d10_14) rfl rfl (XS.iloadN X2.here hx rfl (hb hby own_d10_15) rfl (q))))))))) ?_
  refine own_st (g' := (mkF m 17 #[.val .null, .val (.ref x2), .val (.int (2 : Int32)), .val (.int (0 : Int32)), .unset] [(.ref aS)])) (own_aald X2 hx hZ rfl A2 (j := (0 : Int32)) ⟨by decide, by decide⟩ rfl (hb hby own_d10_16)) ?_
  refine own_st (g' := (mkF m 21 #[.val .null, .val (.ref x2), .val (.int (2 : Int32)), .val (.int (0 : Int32)), .val (.ref aS)] [(.ref aS)])) (fun _ q => XS.astore X2.here hx rfl (hb hby own_d10_17) rfl rfl (l' := #[.val .null, .val (.ref x2), .val (.int (2 : Int32)), .val (.int (0 : Int32)), .val (.ref aS)]) rfl (XS.aload X2.here hx rfl (hb hby own_d10_19) rfl rfl (q))) ?_
  obtain ⟨T3, X3, e3, st3⟩ := getF X2 hx hZ hown (host := "") (Or.inl (hw _ (List.mem_of_getElem? (i := 93) rfl))) Via.refl rfl (MS.ext (X00.keep K2 all0).2) (g := (mkF m 21 #[.val .null, .val (.ref x2), .val (.int (2 : Int32)), .val (.int (0 : Int32)), .val (.ref aS)] [(.ref aS)])) rfl rfl (hb hby own_d10_21)
  refine own_st (g' := (mkF m 24 #[.val .null, .val (.ref x2), .val (.int (2 : Int32)), .val (.int (0 : Int32)), .val (.ref aS)] [(.ref wS)])) st3 ?_
  refine own_st (g' := (mkF m 25 #[.val .null, .val (.ref x2), .val (.int (2 : Int32)), .val (.int (0 : Int32)), .val (.ref aS)] [.null, (.ref wS)])) (fun _ q => XS.aloadN X3.here hx rfl (hb hby own_d10_24) rfl rfl (q)) ?_
  obtain ⟨r4, hr4⟩ : ∃ z : Int32, z = own_f_eqn := ⟨_, rfl⟩
  have K4 : own_Bk l ({ frames := 2, cells := 1, slots := 2, locals := 25 } : Room) p e below s #[.null] (⟨"java/lang/String", "equals", "(Ljava/lang/Object;)Z"⟩ : MethodName) 0 T2.heap #[(.ref wS), .null] 0 0 (fun v h L => v = some (.int r4) ∧ L = [] ∧ h = T2.heap) := backOf (s := s) (R := ({ frames := 2, cells := 1, slots := 2, locals := 25 } : Room)) (W := 0) (Q := (fun v h L => v = some (.int r4) ∧ L = [] ∧ h = T2.heap)) (rm := ({ frames := 0, cells := 0, slots := 0, locals := 0 } : Room)) (own_rm_eqn l Z a0 hw [] wS r4 T2.heap  (by rw [hr4])) hZ (hw _ (List.mem_of_getElem? (i := 99) rfl)) (hw _ (List.mem_of_getElem? (i := 1) rfl)) (by decide) (by decide)
  obtain ⟨T5, X5, e5, st5⟩ := own_pure (own_cV X3 hx hZ hown (hw _ (List.mem_of_getElem? (i := 95) rfl)) (hw _ (List.mem_of_getElem? (i := 96) rfl)) (notFace_of_selects (args := #[]) (mvT hZ (hw _ (List.mem_of_getElem? (i := 98) rfl)))) (hw _ (List.mem_of_getElem? (i := 98) rfl)) (hw _ (List.mem_of_getElem? (i := 97) rfl)) (by decide) e3 (h := T2.heap) (b := wS) (ES.ext (X00.keep K2 all0).2) (argsL := [.null]) (rest := []) K4 (pc := 25) (Ls := #[.val .null, .val (.ref x2), .val (.int (2 : Int32)), .val (.int (0 : Int32)), .val (.ref aS)]) (by rw [hml]; rfl) (lenOf own_pd8 rfl) rfl (Nat.le_of_eq rfl) (hb hby own_d10_25) (by decide) (by decide))
  refine own_st (g' := (mkF m 28 #[.val .null, .val (.ref x2), .val (.int (2 : Int32)), .val (.int (0 : Int32)), .val (.ref aS)] [(.int r4)])) st5 ?_
  refine own_st (g' := (mkF m 16 #[.val .null, .val (.ref x2), .val (.int (2 : Int32)), .val (.int (1 : Int32)), .val (.ref aS)] [(.int (1 : Int32)), (.ref x2)])) (fun _ q => XS.ifYes X5.here hx rfl (pc0 := 28) (pc' := 37) rfl (hb hby own_d10_28) rfl ((if0 _ _).trans (teq (by rw [hr4]; rfl)).1) (by decide) (by decide) (XS.iinc X5.here hx rfl (hb hby own_d10_37) rfl (l' := #[.val .null, .val (.ref x2), .val (.int (2 : Int32)), .val (.int (1 : Int32)), .val (.ref aS)]) rfl (XS.goto X5.here hx rfl (pc0 := 40) (pc' := 9) rfl (hb hby own_d10_40) (by decide) (by decide) (XS.iloadN X5.here hx rfl (hb hby own_d10_9) rfl (XS.iloadN X5.here hx rfl (hb hby own_d10_10) rfl (XS.icmpNo X5.here hx rfl (hb hby own_d10_11) rfl (tlt (by decide : (1 : Int32) < (2 : Int32))).2.1 (XS.aloadN X5.here hx rfl (hb hby own_d10_14) rfl rfl (XS.iloadN X5.here hx rfl (hb hby own_d10_15) rfl (q))))))))) ?_
  refine own_st (g' := (mkF m 17 #[.val .null, .val (.ref x2), .val (.int (2 : Int32)), .val (.int (1 : Int32)), .val (.ref aS)] [(.ref aF)])) (own_aald X5 hx hZ e5 A2 (j := (1 : Int32)) ⟨by decide, by decide⟩ rfl (hb hby own_d10_16)) ?_
  refine own_st (g' := (mkF m 21 #[.val .null, .val (.ref x2), .val (.int (2 : Int32)), .val (.int (1 : Int32)), .val (.ref aF)] [(.ref aF)])) (fun _ q => XS.astore X5.here hx rfl (hb hby own_d10_17) rfl rfl (l' := #[.val .null, .val (.ref x2), .val (.int (2 : Int32)), .val (.int (1 : Int32)), .val (.ref aF)]) rfl (XS.aload X5.here hx rfl (hb hby own_d10_19) rfl rfl (q))) ?_
  obtain ⟨T6, X6, e6, st6⟩ := getF X5 hx hZ hown (host := "") (Or.inl (hw _ (List.mem_of_getElem? (i := 93) rfl))) Via.refl e5 (MF.ext (X00.keep K2 all0).2) (g := (mkF m 21 #[.val .null, .val (.ref x2), .val (.int (2 : Int32)), .val (.int (1 : Int32)), .val (.ref aF)] [(.ref aF)])) rfl rfl (hb hby own_d10_21)
  refine own_st (g' := (mkF m 24 #[.val .null, .val (.ref x2), .val (.int (2 : Int32)), .val (.int (1 : Int32)), .val (.ref aF)] [(.ref wF)])) st6 ?_
  refine own_st (g' := (mkF m 25 #[.val .null, .val (.ref x2), .val (.int (2 : Int32)), .val (.int (1 : Int32)), .val (.ref aF)] [.null, (.ref wF)])) (fun _ q => XS.aloadN X6.here hx rfl (hb hby own_d10_24) rfl rfl (q)) ?_
  obtain ⟨r7, hr7⟩ : ∃ z : Int32, z = own_f_eqn := ⟨_, rfl⟩
  have K7 : own_Bk l ({ frames := 2, cells := 1, slots := 2, locals := 25 } : Room) p e below s #[.null] (⟨"java/lang/String", "equals", "(Ljava/lang/Object;)Z"⟩ : MethodName) 0 T2.heap #[(.ref wF), .null] 0 0 (fun v h L => v = some (.int r7) ∧ L = [] ∧ h = T2.heap) := backOf (s := s) (R := ({ frames := 2, cells := 1, slots := 2, locals := 25 } : Room)) (W := 0) (Q := (fun v h L => v = some (.int r7) ∧ L = [] ∧ h = T2.heap)) (rm := ({ frames := 0, cells := 0, slots := 0, locals := 0 } : Room)) (own_rm_eqn l Z a0 hw [] wF r7 T2.heap  (by rw [hr7])) hZ (hw _ (List.mem_of_getElem? (i := 99) rfl)) (hw _ (List.mem_of_getElem? (i := 1) rfl)) (by decide) (by decide)
  obtain ⟨T8, X8, e8, st8⟩ := own_pure (own_cV X6 hx hZ hown (hw _ (List.mem_of_getElem? (i := 95) rfl)) (hw _ (List.mem_of_getElem? (i := 96) rfl)) (notFace_of_selects (args := #[]) (mvT hZ (hw _ (List.mem_of_getElem? (i := 98) rfl)))) (hw _ (List.mem_of_getElem? (i := 98) rfl)) (hw _ (List.mem_of_getElem? (i := 97) rfl)) (by decide) e6 (h := T2.heap) (b := wF) (EF.ext (X00.keep K2 all0).2) (argsL := [.null]) (rest := []) K7 (pc := 25) (Ls := #[.val .null, .val (.ref x2), .val (.int (2 : Int32)), .val (.int (1 : Int32)), .val (.ref aF)]) (by rw [hml]; rfl) (lenOf own_pd8 rfl) rfl (Nat.le_of_eq rfl) (hb hby own_d10_25) (by decide) (by decide))
  refine own_st (g' := (mkF m 28 #[.val .null, .val (.ref x2), .val (.int (2 : Int32)), .val (.int (1 : Int32)), .val (.ref aF)] [(.int r7)])) st8 ?_
  refine own_st (g' := (mkF m 43 #[.val .null, .val (.ref x2), .val (.int (2 : Int32)), .val (.int (2 : Int32)), .val (.ref aF)] [])) (fun _ q => XS.ifYes X8.here hx rfl (pc0 := 28) (pc' := 37) rfl (hb hby own_d10_28) rfl ((if0 _ _).trans (teq (by rw [hr7]; rfl)).1) (by decide) (by decide) (XS.iinc X8.here hx rfl (hb hby own_d10_37) rfl (l' := #[.val .null, .val (.ref x2), .val (.int (2 : Int32)), .val (.int (2 : Int32)), .val (.ref aF)]) rfl (XS.goto X8.here hx rfl (pc0 := 40) (pc' := 9) rfl (hb hby own_d10_40) (by decide) (by decide) (XS.iloadN X8.here hx rfl (hb hby own_d10_9) rfl (XS.iloadN X8.here hx rfl (hb hby own_d10_10) rfl (XS.icmpYes X8.here hx rfl (pc0 := 11) (pc' := 43) rfl (hb hby own_d10_11) rfl (flt (by decide : ¬ ((2 : Int32) < (2 : Int32)))).2.1 (by decide) (by decide) (q))))))) ?_
  have K9 : own_Bk l ({ frames := 2, cells := 1, slots := 2, locals := 25 } : Room) p e below s #[.null] (⟨"java/util/Optional", "empty", "()Ljava/util/Optional;"⟩ : MethodName) 0 T2.heap #[] 0 0 (fun v h L => v = some (.ref aE) ∧ L = [] ∧ h = T2.heap) := backOf (s := s) (R := ({ frames := 2, cells := 1, slots := 2, locals := 25 } : Room)) (W := 0) (Q := (fun v h L => v = some (.ref aE) ∧ L = [] ∧ h = T2.heap)) (rm := ({ frames := 0, cells := 0, slots := 0, locals := 0 } : Room)) (own_rm_emp l Z a0 hw [] aE n0  T2.heap (X00.keep K2 all0) OE ) hZ (hw _ (List.mem_of_getElem? (i := 107) rfl)) (hw _ (List.mem_of_getElem? (i := 106) rfl)) (by decide) (by decide)
  obtain ⟨T10, X10, e10, st10⟩ := own_pure (own_cS X8 hx hZ hown (hw _ (List.mem_of_getElem? (i := 104) rfl)) (hw _ (List.mem_of_getElem? (i := 105) rfl)) (hw _ (List.mem_of_getElem? (i := 106) rfl)) (hw _ (List.mem_of_getElem? (i := 107) rfl)) (by decide) e8 (h := T2.heap) (argsL := []) (rest := []) K9 (pc := 43) (Ls := #[.val .null, .val (.ref x2), .val (.int (2 : Int32)), .val (.int (2 : Int32)), .val (.ref aF)]) (by rw [hml]; rfl) (lenOf own_pd9 rfl) rfl (Nat.le_of_eq rfl) (hb hby own_d10_43) (by decide) (by decide))
  refine own_st (g' := (mkF m 46 #[.val .null, .val (.ref x2), .val (.int (2 : Int32)), .val (.int (2 : Int32)), .val (.ref aF)] [(.ref aE)])) st10 ?_
  exact own_goR X10 hlk hx (t := (.object "java/util/Optional")) rfl rfl Bd.returns (hb hby own_d10_46) (by rw [e10]; exact ⟨N2, ((Keep.refl h0 []).trans K2 all0), aE, rfl, (EE.ext (X00.keep K2 all0).2), (FE.ext (X00.keep K2 all0).2)⟩) (by decide) (by decide)
theorem own_ef9 (m : MethodId) (x0 : Addr) : entryFrame m #[(.ref x0)] 5 = mkF m 0 #[.val (.ref x0), .unset, .unset, .unset, .unset] [] := by first | (simp [entryFrame, mkF, argsToLocals, Value.category, maxLocals]; done) | rfl
abbrev own_Q_named (Z : State) (x t : Addr) (kb : ClassId) (cs : List Int32) (N2 : Int32) (vs : List Value) (aV aS aF aE wS tS wF tF : Addr) (kv kS kF : ClassId) (z : Int32) (n0 : Nat) (h0 : Heap) : Option Value → Heap → List Loc → Prop := fun v h L => Fr n0 L ∧ Keep h0 h [] ∧ ∃ o, v = some (.ref o) ∧ Exa Z h o "java/util/Optional" ∧ Fld Z h o "java/util/Optional" "value" "Ljava/lang/Object;" (if own_shared = cs then (.ref aS) else if own_fresh = cs then (.ref aF) else .null)
theorem own_d10_31 : decode prog_100_method_5_code 31 = .ok (.aload 4, 2) := by decide +kernel
theorem own_d10_33 : decode prog_100_method_5_code 33 = .ok (.invokestatic 43, 3) := by decide +kernel
theorem own_pd10 : parseMethodDescriptor "(Ljava/lang/Object;)Ljava/util/Optional;" = some ⟨[(.object "java/lang/Object")], some (.object "java/util/Optional")⟩ := by decide +kernel
theorem own_d10_36 : decode prog_100_method_5_code 36 = .ok (.areturn, 1) := by decide +kernel
set_option maxRecDepth 65536 in
set_option maxHeartbeats 40000000 in
theorem own_rm_named (l : Launch) (Z : State) (a0 : Array Value) (hw : ∀ d ∈ tables_1, d.before a0 Z = true) (ws : List Jvm.Cond) (x t : Addr) (kb : ClassId) (cs : List Int32) (N2 : Int32) (vs : List Value) (aV aS aF aE wS tS wF tF : Addr) (kv kS kF : ClassId) (z : Int32) (n0 : Nat) (h0 : Heap) (E : Exa Z h0 x "java/lang/String") (F : Fld Z h0 x "java/lang/String" "value" "[B" (.ref t)) (C : Fld Z h0 x "java/lang/String" "coder" "B" (.int (0 : Int32))) (K : Arv Z h0 t kb .byte N2 vs (.int (0 : Int32))) (hc : StrChars.Road.CodA cs (0 : Int32) N2 vs) (hb_ : ∀ c ∈ cs, ¬ c < 0 ∧ ¬ (65535 : Int32) < c) (l2 : cs.length ≤ 4000) (Z0 : n0 ≤ h0.size) (X00 : Old Z n0 h0) (O : Sta Z Z.heap "java/lang/String" "COMPACT_STRINGS" "Z" (.int z)) (hz : ¬ z = (0 : Int32)) (OV : Sta Z Z.heap "org/proofstand/runner/VmMode" "$VALUES" "[Lorg/proofstand/runner/VmMode;" (.ref aV)) (VV : Arv Z Z.heap aV kv (.object "org/proofstand/runner/VmMode") (2 : Int32) [(.ref aS), (.ref aF)] .null) (EV : Exa Z Z.heap aV "[Lorg/proofstand/runner/VmMode;") (OE : Sta Z Z.heap "java/util/Optional" "EMPTY" "Ljava/util/Optional;" (.ref aE)) (EE : Exa Z Z.heap aE "java/util/Optional") (FE : Fld Z Z.heap aE "java/util/Optional" "value" "Ljava/lang/Object;" .null) (ES : Exa Z Z.heap wS "java/lang/String") (FS : Fld Z Z.heap wS "java/lang/String" "value" "[B" (.ref tS)) (CS : Fld Z Z.heap wS "java/lang/String" "coder" "B" (.int (0 : Int32))) (KS : Arv Z Z.heap tS kS .byte (6 : Int32) own_vsS (.int (0 : Int32))) (MS : Fld Z Z.heap aS "org/proofstand/runner/VmMode" "word" "Ljava/lang/String;" (.ref wS)) (EMS : Exa Z Z.heap aS "org/proofstand/runner/VmMode") (EF : Exa Z Z.heap wF "java/lang/String") (FF : Fld Z Z.heap wF "java/lang/String" "value" "[B" (.ref tF)) (CF : Fld Z Z.heap wF "java/lang/String" "coder" "B" (.int (0 : Int32))) (KF : Arv Z Z.heap tF kF .byte (5 : Int32) own_vsF (.int (0 : Int32))) (MF : Fld Z Z.heap aF "org/proofstand/runner/VmMode" "word" "Ljava/lang/String;" (.ref wF)) (EMF : Exa Z Z.heap aF "org/proofstand/runner/VmMode") :
    MetFree l (⟨"org/proofstand/runner/VmMode", "named", "(Ljava/lang/String;)Ljava/util/Optional;"⟩ : MethodName) (head1 (Jvm.Cond.code (⟨"org/proofstand/runner/VmMode", "named", "(Ljava/lang/String;)Ljava/util/Optional;"⟩ : MethodName) prog_100_method_5_code 5 (some (.object "java/util/Optional")) :: ws) ({ frames := 3, cells := 2, slots := 3, locals := 38 } : Room)) (fun aa U => aa = #[(.ref x)] ∧ Z.Warmed39 U.vm ∧ U.heap = h0) (fun _ _ _ _ _ => True) (fun _ U o_ U' => ∃ v L, o_ = .returned v ∧ (own_Q_named Z x t kb cs N2 vs aV aS aF aE wS tS wF tF kv kS kF z n0 h0) v U'.heap L ∧ FrameEnd U o_ U' L ({ frames := 3, cells := 2, slots := 3, locals := 38 } : Room).cells ({ frames := 3, cells := 2, slots := 3, locals := 38 } : Room).slots) := by
  refine MetFree.of_bodySF (plainFor_of_name own_pn2) hisR ?_
  intro p e s m args below meth c s₁ Bd hml0 hP hK
  obtain ⟨rfl, hZ, hh⟩ := hP
  have hx := Bd.exec
  have hby := Bd.bytes
  have hml : c.maxLocals = 5 := hml0
  have hlk : meth.locks = false := BodyLoose.notSynchronized Bd
  have hown : s.vm.findClass "org/proofstand/runner/VmMode" = some m.cls := findClass_of_methodNamed Bd.named
  have hnm := (name_of_methodNamed Bd.named Bd.method).1
  have X0 : Stand p l e ({ frames := 3, cells := 2, slots := 3, locals := 38 } : Room) s m #[(.ref x)] below meth c s₁ [] 0 0 := Stand.of_body Bd
  have e0 : s₁.heap = h0 := by rw [← hh, Bd.state]; rfl
  rw [own_ef9 m x]
  show own_Go p e below s ({ frames := 3, cells := 2, slots := 3, locals := 38 } : Room).cells ({ frames := 3, cells := 2, slots := 3, locals := 38 } : Room).slots (own_Q_named Z x t kb cs N2 vs aV aS aF aE wS tS wF tF kv kS kF z n0 h0) s₁ (mkF m 0 #[.val (.ref x), .unset, .unset, .unset, .unset] [])
  have N0 := Fr.nil n0
  have K1 : own_Bk l ({ frames := 3, cells := 2, slots := 3, locals := 38 } : Room) p e below s #[(.ref x)] (⟨"org/proofstand/runner/VmMode", "values", "()[Lorg/proofstand/runner/VmMode;"⟩ : MethodName) 0 h0 #[] 1 2 (own_Q_vals Z aV aS aF kv n0 h0) := backOf (s := s) (R := ({ frames := 3, cells := 2, slots := 3, locals := 38 } : Room)) (W := 0) (Q := (own_Q_vals Z aV aS aF kv n0 h0)) (rm := ({ frames := 1, cells := 1, slots := 2, locals := 14 } : Room)) (own_rm_vals l Z a0 hw [] aV aS aF kv n0 h0 Z0 X00 OV VV EV) hZ (hw _ (List.mem_of_getElem? (i := 78) rfl)) (hw _ (List.mem_of_getElem? (i := 74) rfl)) (by decide) (by decide)
  obtain ⟨_, L2, T2, X2, ⟨N2q, K2, x2, rfl, u2, A2⟩, st2⟩ := own_cS X0 hx hZ hown (hw _ (List.mem_of_getElem? (i := 76) rfl)) (hw _ (List.mem_of_getElem? (i := 77) rfl)) (hw _ (List.mem_of_getElem? (i := 74) rfl)) (hw _ (List.mem_of_getElem? (i := 78) rfl)) (by decide) e0 (h := h0) (argsL := []) (rest := []) K1 (pc := 0) (Ls := #[.val (.ref x), .unset, .unset, .unset, .unset]) (by rw [hml]; rfl) (lenOf own_pd7 rfl) rfl (Nat.le_of_eq rfl) (hb hby own_d10_0) (by decide) (by decide)
  have N2 := Fr.app N0 N2q
  refine own_st (g' := (mkF m 3 #[.val (.ref x), .unset, .unset, .unset, .unset] [(.ref x2)])) st2 ?_
  refine own_st (g' := (mkF m 5 #[.val (.ref x), .val (.ref x2), .unset, .unset, .unset] [(.ref x2)])) (fun _ q => XS.astoreN X2.here hx rfl (hb hby own_d10_3) rfl rfl (l' := #[.val (.ref x), .val (.ref x2), .unset, .unset, .unset]) rfl (XS.aloadN X2.here hx rfl (hb hby own_d10_4) rfl rfl (q))) ?_
  refine own_st (g' := (mkF m 6 #[.val (.ref x), .val (.ref x2), .unset, .unset, .unset] [(.int (2 : Int32))])) (own_alen X2 hx hZ rfl A2 (hb hby own_d10_5)) ?_
  refine own_st (g' := (mkF m 16 #[.val (.ref x), .val (.ref x2), .val (.int (2 : Int32)), .val (.int (0 : Int32)), .unset] [(.int (0 : Int32)), (.ref x2)])) (fun _ q => XS.istoreN X2.here hx rfl (hb hby own_d10_6) rfl (l' := #[.val (.ref x), .val (.ref x2), .val (.int (2 : Int32)), .unset, .unset]) rfl (XS.iconst X2.here hx rfl (hb hby own_d10_7) (XS.istoreN X2.here hx rfl (hb hby own_d10_8) rfl (l' := #[.val (.ref x), .val (.ref x2), .val (.int (2 : Int32)), .val (.int (0 : Int32)), .unset]) rfl (XS.iloadN X2.here hx rfl (hb hby own_d10_9) rfl (XS.iloadN X2.here hx rfl (hb hby own_d10_10) rfl (XS.icmpNo X2.here hx rfl (hb hby own_d10_11) rfl (tlt (by decide : (0 : Int32) < (2 : Int32))).2.1 (XS.aloadN X2.here hx rfl (hb hby own_d10_14) rfl rfl (XS.iloadN X2.here hx rfl (hb hby own_d10_15) rfl (q))))))))) ?_
  refine own_st (g' := (mkF m 17 #[.val (.ref x), .val (.ref x2), .val (.int (2 : Int32)), .val (.int (0 : Int32)), .unset] [(.ref aS)])) (own_aald X2 hx hZ rfl A2 (j := (0 : Int32)) ⟨by decide, by decide⟩ rfl (hb hby own_d10_16)) ?_
  refine own_st (g' := (mkF m 21 #[.val (.ref x), .val (.ref x2), .val (.int (2 : Int32)), .val (.int (0 : Int32)), .val (.ref aS)] [(.ref aS)])) (fun _ q => XS.astore X2.here hx rfl (hb hby own_d10_17) rfl rfl (l' := #[.val (.ref x), .val (.ref x2), .val (.int (2 : Int32)), .val (.int (0 : Int32)), .val (.ref aS)]) rfl (XS.aload X2.here hx rfl (hb hby own_d10_19) rfl rfl (q))) ?_
  obtain ⟨T3, X3, e3, st3⟩ := getF X2 hx hZ hown (host := "") (Or.inl (hw _ (List.mem_of_getElem? (i := 93) rfl))) Via.refl rfl (MS.ext (X00.keep K2 all0).2) (g := (mkF m 21 #[.val (.ref x), .val (.ref x2), .val (.int (2 : Int32)), .val (.int (0 : Int32)), .val (.ref aS)] [(.ref aS)])) rfl rfl (hb hby own_d10_21)
  refine own_st (g' := (mkF m 24 #[.val (.ref x), .val (.ref x2), .val (.int (2 : Int32)), .val (.int (0 : Int32)), .val (.ref aS)] [(.ref wS)])) st3 ?_
  refine own_st (g' := (mkF m 25 #[.val (.ref x), .val (.ref x2), .val (.int (2 : Int32)), .val (.int (0 : Int32)), .val (.ref aS)] [(.ref x), (.ref wS)])) (fun _ q => XS.aloadN X3.here hx rfl (hb hby own_d10_24) rfl rfl (q)) ?_
  have K4 : own_Bk l ({ frames := 3, cells := 2, slots := 3, locals := 38 } : Room) p e below s #[(.ref x)] (⟨"java/lang/String", "equals", "(Ljava/lang/Object;)Z"⟩ : MethodName) 0 T2.heap #[(.ref wS), (.ref x)] 0 0 (fun v h L => ((v = some (.int 1) ∧ own_shared = cs) ∨ (v = some (.int 0) ∧ ¬ own_shared = cs)) ∧ L = [] ∧ h = T2.heap) := StrChars.Road.eqW (s := s) (W := 0) hZ (own_heq hw) (kI := 4) (hw _ (List.mem_of_getElem? (i := 2) rfl)) (ES.ext (X00.keep K2 all0).2) (FS.ext (X00.keep K2 all0).2) (CS.ext (X00.keep K2 all0).2) (KS.ext (X00.keep K2 all0).2) own_codS own_hbS (by decide) (E.keep K2) (F.keep K2 nin0) (C.keep K2 nin0) (K.keep K2 nin0) hc hb_ l2 (O.ext (X00.keep K2 all0).2) hz (by decide) (by decide)
  obtain ⟨v4, T4, hv4, X4, e4, st4⟩ := own_pureE (A := fun v => ((v = some (.int 1) ∧ own_shared = cs) ∨ (v = some (.int 0) ∧ ¬ own_shared = cs))) (own_cV X3 hx hZ hown (hw _ (List.mem_of_getElem? (i := 95) rfl)) (hw _ (List.mem_of_getElem? (i := 96) rfl)) (notFace_of_selects (args := #[]) (mvT hZ (hw _ (List.mem_of_getElem? (i := 98) rfl)))) (hw _ (List.mem_of_getElem? (i := 98) rfl)) (hw _ (List.mem_of_getElem? (i := 97) rfl)) (by decide) e3 (h := T2.heap) (b := wS) (ES.ext (X00.keep K2 all0).2) (argsL := [(.ref x)]) (rest := []) K4 (pc := 25) (Ls := #[.val (.ref x), .val (.ref x2), .val (.int (2 : Int32)), .val (.int (0 : Int32)), .val (.ref aS)]) (by rw [hml]; rfl) (lenOf own_pd8 rfl) rfl (Nat.le_of_eq rfl) (hb hby own_d10_25) (by decide) (by decide))
  obtain ⟨r4, hr4, rfl⟩ := own_eq01 hv4
  refine own_st (g' := (mkF m 28 #[.val (.ref x), .val (.ref x2), .val (.int (2 : Int32)), .val (.int (0 : Int32)), .val (.ref aS)] [(.int r4)])) st4 ?_
  by_cases hc5 : r4 = (0 : Int32)
  · -- r4 = (0 : Int32)
    refine own_st (g' := (mkF m 16 #[.val (.ref x), .val (.ref x2), .val (.int (2 : Int32)), .val (.int (1 : Int32)), .val (.ref aS)] [(.int (1 : Int32)), (.ref x2)])) (fun _ q => XS.ifYes X4.here hx rfl (pc0 := 28) (pc' := 37) rfl (hb hby own_d10_28) rfl ((if0 _ _).trans (teq hc5).1) (by decide) (by decide) (XS.iinc X4.here hx rfl (hb hby own_d10_37) rfl (l' := #[.val (.ref x), .val (.ref x2), .val (.int (2 : Int32)), .val (.int (1 : Int32)), .val (.ref aS)]) rfl (XS.goto X4.here hx rfl (pc0 := 40) (pc' := 9) rfl (hb hby own_d10_40) (by decide) (by decide) (XS.iloadN X4.here hx rfl (hb hby own_d10_9) rfl (XS.iloadN X4.here hx rfl (hb hby own_d10_10) rfl (XS.icmpNo X4.here hx rfl (hb hby own_d10_11) rfl (tlt (by decide : (1 : Int32) < (2 : Int32))).2.1 (XS.aloadN X4.here hx rfl (hb hby own_d10_14) rfl rfl (XS.iloadN X4.here hx rfl (hb hby own_d10_15) rfl (q))))))))) ?_
    refine own_st (g' := (mkF m 17 #[.val (.ref x), .val (.ref x2), .val (.int (2 : Int32)), .val (.int (1 : Int32)), .val (.ref aS)] [(.ref aF)])) (own_aald X4 hx hZ e4 A2 (j := (1 : Int32)) ⟨by decide, by decide⟩ rfl (hb hby own_d10_16)) ?_
    refine own_st (g' := (mkF m 21 #[.val (.ref x), .val (.ref x2), .val (.int (2 : Int32)), .val (.int (1 : Int32)), .val (.ref aF)] [(.ref aF)])) (fun _ q => XS.astore X4.here hx rfl (hb hby own_d10_17) rfl rfl (l' := #[.val (.ref x), .val (.ref x2), .val (.int (2 : Int32)), .val (.int (1 : Int32)), .val (.ref aF)]) rfl (XS.aload X4.here hx rfl (hb hby own_d10_19) rfl rfl (q))) ?_
    obtain ⟨T6, X6, e6, st6⟩ := getF X4 hx hZ hown (host := "") (Or.inl (hw _ (List.mem_of_getElem? (i := 93) rfl))) Via.refl e4 (MF.ext (X00.keep K2 all0).2) (g := (mkF m 21 #[.val (.ref x), .val (.ref x2), .val (.int (2 : Int32)), .val (.int (1 : Int32)), .val (.ref aF)] [(.ref aF)])) rfl rfl (hb hby own_d10_21)
    refine own_st (g' := (mkF m 24 #[.val (.ref x), .val (.ref x2), .val (.int (2 : Int32)), .val (.int (1 : Int32)), .val (.ref aF)] [(.ref wF)])) st6 ?_
    refine own_st (g' := (mkF m 25 #[.val (.ref x), .val (.ref x2), .val (.int (2 : Int32)), .val (.int (1 : Int32)), .val (.ref aF)] [(.ref x), (.ref wF)])) (fun _ q => XS.aloadN X6.here hx rfl (hb hby own_d10_24) rfl rfl (q)) ?_
    have K7 : own_Bk l ({ frames := 3, cells := 2, slots := 3, locals := 38 } : Room) p e below s #[(.ref x)] (⟨"java/lang/String", "equals", "(Ljava/lang/Object;)Z"⟩ : MethodName) 0 T2.heap #[(.ref wF), (.ref x)] 0 0 (fun v h L => ((v = some (.int 1) ∧ own_fresh = cs) ∨ (v = some (.int 0) ∧ ¬ own_fresh = cs)) ∧ L = [] ∧ h = T2.heap) := StrChars.Road.eqW (s := s) (W := 0) hZ (own_heq hw) (kI := 4) (hw _ (List.mem_of_getElem? (i := 2) rfl)) (EF.ext (X00.keep K2 all0).2) (FF.ext (X00.keep K2 all0).2) (CF.ext (X00.keep K2 all0).2) (KF.ext (X00.keep K2 all0).2) own_codF own_hbF (by decide) (E.keep K2) (F.keep K2 nin0) (C.keep K2 nin0) (K.keep K2 nin0) hc hb_ l2 (O.ext (X00.keep K2 all0).2) hz (by decide) (by decide)
    obtain ⟨v7, T7, hv7, X7, e7, st7⟩ := own_pureE (A := fun v => ((v = some (.int 1) ∧ own_fresh = cs) ∨ (v = some (.int 0) ∧ ¬ own_fresh = cs))) (own_cV X6 hx hZ hown (hw _ (List.mem_of_getElem? (i := 95) rfl)) (hw _ (List.mem_of_getElem? (i := 96) rfl)) (notFace_of_selects (args := #[]) (mvT hZ (hw _ (List.mem_of_getElem? (i := 98) rfl)))) (hw _ (List.mem_of_getElem? (i := 98) rfl)) (hw _ (List.mem_of_getElem? (i := 97) rfl)) (by decide) e6 (h := T2.heap) (b := wF) (EF.ext (X00.keep K2 all0).2) (argsL := [(.ref x)]) (rest := []) K7 (pc := 25) (Ls := #[.val (.ref x), .val (.ref x2), .val (.int (2 : Int32)), .val (.int (1 : Int32)), .val (.ref aF)]) (by rw [hml]; rfl) (lenOf own_pd8 rfl) rfl (Nat.le_of_eq rfl) (hb hby own_d10_25) (by decide) (by decide))
    obtain ⟨r7, hr7, rfl⟩ := own_eq01 hv7
    refine own_st (g' := (mkF m 28 #[.val (.ref x), .val (.ref x2), .val (.int (2 : Int32)), .val (.int (1 : Int32)), .val (.ref aF)] [(.int r7)])) st7 ?_
    by_cases hc8 : r7 = (0 : Int32)
    · -- r7 = (0 : Int32)
      refine own_st (g' := (mkF m 43 #[.val (.ref x), .val (.ref x2), .val (.int (2 : Int32)), .val (.int (2 : Int32)), .val (.ref aF)] [])) (fun _ q => XS.ifYes X7.here hx rfl (pc0 := 28) (pc' := 37) rfl (hb hby own_d10_28) rfl ((if0 _ _).trans (teq hc8).1) (by decide) (by decide) (XS.iinc X7.here hx rfl (hb hby own_d10_37) rfl (l' := #[.val (.ref x), .val (.ref x2), .val (.int (2 : Int32)), .val (.int (2 : Int32)), .val (.ref aF)]) rfl (XS.goto X7.here hx rfl (pc0 := 40) (pc' := 9) rfl (hb hby own_d10_40) (by decide) (by decide) (XS.iloadN X7.here hx rfl (hb hby own_d10_9) rfl (XS.iloadN X7.here hx rfl (hb hby own_d10_10) rfl (XS.icmpYes X7.here hx rfl (pc0 := 11) (pc' := 43) rfl (hb hby own_d10_11) rfl (flt (by decide : ¬ ((2 : Int32) < (2 : Int32)))).2.1 (by decide) (by decide) (q))))))) ?_
      have K9 : own_Bk l ({ frames := 3, cells := 2, slots := 3, locals := 38 } : Room) p e below s #[(.ref x)] (⟨"java/util/Optional", "empty", "()Ljava/util/Optional;"⟩ : MethodName) 0 T2.heap #[] 0 0 (fun v h L => v = some (.ref aE) ∧ L = [] ∧ h = T2.heap) := backOf (s := s) (R := ({ frames := 3, cells := 2, slots := 3, locals := 38 } : Room)) (W := 0) (Q := (fun v h L => v = some (.ref aE) ∧ L = [] ∧ h = T2.heap)) (rm := ({ frames := 0, cells := 0, slots := 0, locals := 0 } : Room)) (own_rm_emp l Z a0 hw [] aE n0  T2.heap (X00.keep K2 all0) OE ) hZ (hw _ (List.mem_of_getElem? (i := 107) rfl)) (hw _ (List.mem_of_getElem? (i := 106) rfl)) (by decide) (by decide)
      obtain ⟨T10, X10, e10, st10⟩ := own_pure (own_cS X7 hx hZ hown (hw _ (List.mem_of_getElem? (i := 104) rfl)) (hw _ (List.mem_of_getElem? (i := 105) rfl)) (hw _ (List.mem_of_getElem? (i := 106) rfl)) (hw _ (List.mem_of_getElem? (i := 107) rfl)) (by decide) e7 (h := T2.heap) (argsL := []) (rest := []) K9 (pc := 43) (Ls := #[.val (.ref x), .val (.ref x2), .val (.int (2 : Int32)), .val (.int (2 : Int32)), .val (.ref aF)]) (by rw [hml]; rfl) (lenOf own_pd9 rfl) rfl (Nat.le_of_eq rfl) (hb hby own_d10_43) (by decide) (by decide))
      refine own_st (g' := (mkF m 46 #[.val (.ref x), .val (.ref x2), .val (.int (2 : Int32)), .val (.int (2 : Int32)), .val (.ref aF)] [(.ref aE)])) st10 ?_
      exact own_goR X10 hlk hx (t := (.object "java/util/Optional")) rfl rfl Bd.returns (hb hby own_d10_46) (by rw [e10]; exact ⟨N2, ((Keep.refl h0 []).trans K2 all0), aE, rfl, (EE.ext (X00.keep K2 all0).2), (by rw [if_neg (own_r0 hr4 hc5), if_neg (own_r0 hr7 hc8)]; exact (FE.ext (X00.keep K2 all0).2))⟩) (by decide) (by decide)
    · -- not: r7 = (0 : Int32)
      refine own_st (g' := (mkF m 33 #[.val (.ref x), .val (.ref x2), .val (.int (2 : Int32)), .val (.int (1 : Int32)), .val (.ref aF)] [(.ref aF)])) (fun _ q => XS.ifNo X7.here hx rfl (hb hby own_d10_28) rfl ((if0 _ _).trans (feq hc8).1) (XS.aload X7.here hx rfl (hb hby own_d10_31) rfl rfl (q))) ?_
      have K11 : own_Bk l ({ frames := 3, cells := 2, slots := 3, locals := 38 } : Room) p e below s #[(.ref x)] (⟨"java/util/Optional", "of", "(Ljava/lang/Object;)Ljava/util/Optional;"⟩ : MethodName) 0 T2.heap #[(.ref aF)] 1 1 (own_Q_opof Z aF n0 T2.heap) := backOf (s := s) (R := ({ frames := 3, cells := 2, slots := 3, locals := 38 } : Room)) (W := 0) (Q := (own_Q_opof Z aF n0 T2.heap)) (rm := ({ frames := 2, cells := 1, slots := 1, locals := 26 } : Room)) (own_rm_opof l Z a0 hw [] aF n0 T2.heap (Nat.le_trans Z0 K2.1) (X00.keep K2 all0)) hZ (hw _ (List.mem_of_getElem? (i := 120) rfl)) (hw _ (List.mem_of_getElem? (i := 106) rfl)) (by decide) (by decide)
      obtain ⟨_, L12, T12, X12, ⟨N12q, K12, x12, rfl, E12, F12⟩, st12⟩ := own_cS X7 hx hZ hown (hw _ (List.mem_of_getElem? (i := 118) rfl)) (hw _ (List.mem_of_getElem? (i := 119) rfl)) (hw _ (List.mem_of_getElem? (i := 106) rfl)) (hw _ (List.mem_of_getElem? (i := 120) rfl)) (by decide) e7 (h := T2.heap) (argsL := [(.ref aF)]) (rest := []) K11 (pc := 33) (Ls := #[.val (.ref x), .val (.ref x2), .val (.int (2 : Int32)), .val (.int (1 : Int32)), .val (.ref aF)]) (by rw [hml]; rfl) (lenOf own_pd10 rfl) rfl (Nat.le_of_eq rfl) (hb hby own_d10_33) (by decide) (by decide)
      have N12 := Fr.app N2 N12q
      refine own_st (g' := (mkF m 36 #[.val (.ref x), .val (.ref x2), .val (.int (2 : Int32)), .val (.int (1 : Int32)), .val (.ref aF)] [(.ref x12)])) st12 ?_
      exact own_goR X12 hlk hx (t := (.object "java/util/Optional")) rfl rfl Bd.returns (hb hby own_d10_36) ⟨N12, (((Keep.refl h0 []).trans K2 all0).trans K12 all0), x12, rfl, E12, (by rw [if_neg (own_r0 hr4 hc5), if_pos (own_r1 hr7 hc8)]; exact F12)⟩ (by decide) (by decide)
  · -- not: r4 = (0 : Int32)
    refine own_st (g' := (mkF m 33 #[.val (.ref x), .val (.ref x2), .val (.int (2 : Int32)), .val (.int (0 : Int32)), .val (.ref aS)] [(.ref aS)])) (fun _ q => XS.ifNo X4.here hx rfl (hb hby own_d10_28) rfl ((if0 _ _).trans (feq hc5).1) (XS.aload X4.here hx rfl (hb hby own_d10_31) rfl rfl (q))) ?_
    have K13 : own_Bk l ({ frames := 3, cells := 2, slots := 3, locals := 38 } : Room) p e below s #[(.ref x)] (⟨"java/util/Optional", "of", "(Ljava/lang/Object;)Ljava/util/Optional;"⟩ : MethodName) 0 T2.heap #[(.ref aS)] 1 1 (own_Q_opof Z aS n0 T2.heap) := backOf (s := s) (R := ({ frames := 3, cells := 2, slots := 3, locals := 38 } : Room)) (W := 0) (Q := (own_Q_opof Z aS n0 T2.heap)) (rm := ({ frames := 2, cells := 1, slots := 1, locals := 26 } : Room)) (own_rm_opof l Z a0 hw [] aS n0 T2.heap (Nat.le_trans Z0 K2.1) (X00.keep K2 all0)) hZ (hw _ (List.mem_of_getElem? (i := 120) rfl)) (hw _ (List.mem_of_getElem? (i := 106) rfl)) (by decide) (by decide)
    obtain ⟨_, L14, T14, X14, ⟨N14q, K14, x14, rfl, E14, F14⟩, st14⟩ := own_cS X4 hx hZ hown (hw _ (List.mem_of_getElem? (i := 118) rfl)) (hw _ (List.mem_of_getElem? (i := 119) rfl)) (hw _ (List.mem_of_getElem? (i := 106) rfl)) (hw _ (List.mem_of_getElem? (i := 120) rfl)) (by decide) e4 (h := T2.heap) (argsL := [(.ref aS)]) (rest := []) K13 (pc := 33) (Ls := #[.val (.ref x), .val (.ref x2), .val (.int (2 : Int32)), .val (.int (0 : Int32)), .val (.ref aS)]) (by rw [hml]; rfl) (lenOf own_pd10 rfl) rfl (Nat.le_of_eq rfl) (hb hby own_d10_33) (by decide) (by decide)
    have N14 := Fr.app N2 N14q
    refine own_st (g' := (mkF m 36 #[.val (.ref x), .val (.ref x2), .val (.int (2 : Int32)), .val (.int (0 : Int32)), .val (.ref aS)] [(.ref x14)])) st14 ?_
    exact own_goR X14 hlk hx (t := (.object "java/util/Optional")) rfl rfl Bd.returns (hb hby own_d10_36) ⟨N14, (((Keep.refl h0 []).trans K2 all0).trans K14 all0), x14, rfl, E14, (by rw [if_pos (own_r1 hr4 hc5)]; exact F14)⟩ (by decide) (by decide)
theorem own_d11_0 : decode jdk_32_method_6_code 0 = .ok (.aload_n 0, 1) := by decide +kernel
theorem own_d11_1 : decode jdk_32_method_6_code 1 = .ok (.getfield 13, 3) := by decide +kernel
theorem own_d11_4 : decode jdk_32_method_6_code 4 = .ok (.ifnull 7, 3) := by decide +kernel
theorem own_d11_11 : decode jdk_32_method_6_code 11 = .ok (.iconst 0, 1) := by decide +kernel
theorem own_d11_12 : decode jdk_32_method_6_code 12 = .ok (.ireturn, 1) := by decide +kernel
def own_f_isp0  : Int32 := (0 : Int32)
set_option maxRecDepth 65536 in
set_option maxHeartbeats 40000000 in
theorem own_rm_isp0 (l : Launch) (Z : State) (a0 : Array Value) (hw : ∀ d ∈ tables_1, d.before a0 Z = true) (ws : List Jvm.Cond) (o : Addr) (r : Int32) (h0 : Heap) (F : Fld Z h0 o "java/util/Optional" "value" "Ljava/lang/Object;" .null) (hr : r = (own_f_isp0 )) :
    MetFree l (⟨"java/util/Optional", "isPresent", "()Z"⟩ : MethodName) (head1 (Jvm.Cond.code (⟨"java/util/Optional", "isPresent", "()Z"⟩ : MethodName) jdk_32_method_6_code 1 (some .boolean) :: ws) ({ frames := 0, cells := 0, slots := 0, locals := 0 } : Room)) (fun aa U => aa = #[(.ref o)] ∧ Z.Warmed39 U.vm ∧ U.heap = h0) (fun _ _ _ _ _ => True) (fun _ U o_ U' => ∃ v L, o_ = .returned v ∧ (fun v h L => v = some (.int r) ∧ L = [] ∧ h = h0) v U'.heap L ∧ FrameEnd U o_ U' L ({ frames := 0, cells := 0, slots := 0, locals := 0 } : Room).cells ({ frames := 0, cells := 0, slots := 0, locals := 0 } : Room).slots) := by
  refine MetFree.of_bodySF (plainFor_of_name own_pn4) hisR ?_
  intro p e s m args below meth c s₁ Bd hml0 hP hK
  obtain ⟨rfl, hZ, hh⟩ := hP
  have hx := Bd.exec
  have hby := Bd.bytes
  have hml : c.maxLocals = 1 := hml0
  have hlk : meth.locks = false := BodyLoose.notSynchronized Bd
  have hown : s.vm.findClass "java/util/Optional" = some m.cls := findClass_of_methodNamed Bd.named
  have hnm := (name_of_methodNamed Bd.named Bd.method).1
  have X0 : Stand p l e ({ frames := 0, cells := 0, slots := 0, locals := 0 } : Room) s m #[(.ref o)] below meth c s₁ [] 0 0 := Stand.of_body Bd
  have e0 : s₁.heap = h0 := by rw [← hh, Bd.state]; rfl
  rw [own_ef5 m o]
  show own_Go p e below s ({ frames := 0, cells := 0, slots := 0, locals := 0 } : Room).cells ({ frames := 0, cells := 0, slots := 0, locals := 0 } : Room).slots (fun v h L => v = some (.int r) ∧ L = [] ∧ h = h0) s₁ (mkF m 0 #[.val (.ref o)] [])
  refine own_st (g' := (mkF m 1 #[.val (.ref o)] [(.ref o)])) (fun _ q => XS.aloadN X0.here hx rfl (hb hby own_d11_0) rfl rfl (q)) ?_
  obtain ⟨T1, X1, e1, st1⟩ := getF X0 hx hZ hown (host := "") (Or.inl (hw _ (List.mem_of_getElem? (i := 116) rfl))) Via.refl e0 F (g := (mkF m 1 #[.val (.ref o)] [(.ref o)])) rfl rfl (hb hby own_d11_1)
  refine own_st (g' := (mkF m 4 #[.val (.ref o)] [.null])) st1 ?_
  refine own_st (g' := (mkF m 12 #[.val (.ref o)] [(.int (0 : Int32))])) (fun _ q => XS.ifnullYes X1.here hx rfl (pc0 := 4) (pc' := 11) rfl (hb hby own_d11_4) rfl (by decide) (by decide) (XS.iconst X1.here hx rfl (hb hby own_d11_11) (q))) ?_
  exact own_goN X1 hlk hx (t := .boolean) (by simp) Bd.returns (hb hby own_d11_12) ⟨by subst hr; rfl, rfl, e1⟩ (by decide) (by decide)
theorem own_d11_7 : decode jdk_32_method_6_code 7 = .ok (.iconst 1, 1) := by decide +kernel
theorem own_d11_8 : decode jdk_32_method_6_code 8 = .ok (.goto 4, 3) := by decide +kernel
def own_f_isp1  : Int32 := (1 : Int32)
set_option maxRecDepth 65536 in
set_option maxHeartbeats 40000000 in
theorem own_rm_isp1 (l : Launch) (Z : State) (a0 : Array Value) (hw : ∀ d ∈ tables_1, d.before a0 Z = true) (ws : List Jvm.Cond) (o y : Addr) (r : Int32) (h0 : Heap) (F : Fld Z h0 o "java/util/Optional" "value" "Ljava/lang/Object;" (.ref y)) (hr : r = (own_f_isp1 )) :
    MetFree l (⟨"java/util/Optional", "isPresent", "()Z"⟩ : MethodName) (head1 (Jvm.Cond.code (⟨"java/util/Optional", "isPresent", "()Z"⟩ : MethodName) jdk_32_method_6_code 1 (some .boolean) :: ws) ({ frames := 0, cells := 0, slots := 0, locals := 0 } : Room)) (fun aa U => aa = #[(.ref o)] ∧ Z.Warmed39 U.vm ∧ U.heap = h0) (fun _ _ _ _ _ => True) (fun _ U o_ U' => ∃ v L, o_ = .returned v ∧ (fun v h L => v = some (.int r) ∧ L = [] ∧ h = h0) v U'.heap L ∧ FrameEnd U o_ U' L ({ frames := 0, cells := 0, slots := 0, locals := 0 } : Room).cells ({ frames := 0, cells := 0, slots := 0, locals := 0 } : Room).slots) := by
  refine MetFree.of_bodySF (plainFor_of_name own_pn4) hisR ?_
  intro p e s m args below meth c s₁ Bd hml0 hP hK
  obtain ⟨rfl, hZ, hh⟩ := hP
  have hx := Bd.exec
  have hby := Bd.bytes
  have hml : c.maxLocals = 1 := hml0
  have hlk : meth.locks = false := BodyLoose.notSynchronized Bd
  have hown : s.vm.findClass "java/util/Optional" = some m.cls := findClass_of_methodNamed Bd.named
  have hnm := (name_of_methodNamed Bd.named Bd.method).1
  have X0 : Stand p l e ({ frames := 0, cells := 0, slots := 0, locals := 0 } : Room) s m #[(.ref o)] below meth c s₁ [] 0 0 := Stand.of_body Bd
  have e0 : s₁.heap = h0 := by rw [← hh, Bd.state]; rfl
  rw [own_ef5 m o]
  show own_Go p e below s ({ frames := 0, cells := 0, slots := 0, locals := 0 } : Room).cells ({ frames := 0, cells := 0, slots := 0, locals := 0 } : Room).slots (fun v h L => v = some (.int r) ∧ L = [] ∧ h = h0) s₁ (mkF m 0 #[.val (.ref o)] [])
  refine own_st (g' := (mkF m 1 #[.val (.ref o)] [(.ref o)])) (fun _ q => XS.aloadN X0.here hx rfl (hb hby own_d11_0) rfl rfl (q)) ?_
  obtain ⟨T1, X1, e1, st1⟩ := getF X0 hx hZ hown (host := "") (Or.inl (hw _ (List.mem_of_getElem? (i := 116) rfl))) Via.refl e0 F (g := (mkF m 1 #[.val (.ref o)] [(.ref o)])) rfl rfl (hb hby own_d11_1)
  refine own_st (g' := (mkF m 4 #[.val (.ref o)] [(.ref y)])) st1 ?_
  refine own_st (g' := (mkF m 12 #[.val (.ref o)] [(.int (1 : Int32))])) (fun _ q => XS.ifnullNo X1.here hx rfl (hb hby own_d11_4) rfl (XS.iconst X1.here hx rfl (hb hby own_d11_7) (XS.goto X1.here hx rfl (pc0 := 8) (pc' := 12) rfl (hb hby own_d11_8) (by decide) (by decide) (q)))) ?_
  exact own_goN X1 hlk hx (t := .boolean) (by simp) Bd.returns (hb hby own_d11_12) ⟨by subst hr; rfl, rfl, e1⟩ (by decide) (by decide)
theorem own_d12_0 : decode jdk_32_method_5_code 0 = .ok (.aload_n 0, 1) := by decide +kernel
theorem own_d12_1 : decode jdk_32_method_5_code 1 = .ok (.getfield 13, 3) := by decide +kernel
theorem own_d12_4 : decode jdk_32_method_5_code 4 = .ok (.ifnonnull 13, 3) := by decide +kernel
theorem own_d12_17 : decode jdk_32_method_5_code 17 = .ok (.aload_n 0, 1) := by decide +kernel
theorem own_d12_18 : decode jdk_32_method_5_code 18 = .ok (.getfield 13, 3) := by decide +kernel
theorem own_d12_21 : decode jdk_32_method_5_code 21 = .ok (.areturn, 1) := by decide +kernel
set_option maxRecDepth 65536 in
set_option maxHeartbeats 40000000 in
theorem own_rm_get (l : Launch) (Z : State) (a0 : Array Value) (hw : ∀ d ∈ tables_1, d.before a0 Z = true) (ws : List Jvm.Cond) (o y : Addr) (h0 : Heap) (F : Fld Z h0 o "java/util/Optional" "value" "Ljava/lang/Object;" (.ref y)) :
    MetFree l (⟨"java/util/Optional", "get", "()Ljava/lang/Object;"⟩ : MethodName) (head1 (Jvm.Cond.code (⟨"java/util/Optional", "get", "()Ljava/lang/Object;"⟩ : MethodName) jdk_32_method_5_code 1 (some (.object "java/lang/Object")) :: ws) ({ frames := 0, cells := 0, slots := 0, locals := 0 } : Room)) (fun aa U => aa = #[(.ref o)] ∧ Z.Warmed39 U.vm ∧ U.heap = h0) (fun _ _ _ _ _ => True) (fun _ U o_ U' => ∃ v L, o_ = .returned v ∧ (fun v h L => v = some (.ref y) ∧ L = [] ∧ h = h0) v U'.heap L ∧ FrameEnd U o_ U' L ({ frames := 0, cells := 0, slots := 0, locals := 0 } : Room).cells ({ frames := 0, cells := 0, slots := 0, locals := 0 } : Room).slots) := by
  refine MetFree.of_bodySF (plainFor_of_name own_pn4) hisR ?_
  intro p e s m args below meth c s₁ Bd hml0 hP hK
  obtain ⟨rfl, hZ, hh⟩ := hP
  have hx := Bd.exec
  have hby := Bd.bytes
  have hml : c.maxLocals = 1 := hml0
  have hlk : meth.locks = false := BodyLoose.notSynchronized Bd
  have hown : s.vm.findClass "java/util/Optional" = some m.cls := findClass_of_methodNamed Bd.named
  have hnm := (name_of_methodNamed Bd.named Bd.method).1
  have X0 : Stand p l e ({ frames := 0, cells := 0, slots := 0, locals := 0 } : Room) s m #[(.ref o)] below meth c s₁ [] 0 0 := Stand.of_body Bd
  have e0 : s₁.heap = h0 := by rw [← hh, Bd.state]; rfl
  rw [own_ef5 m o]
  show own_Go p e below s ({ frames := 0, cells := 0, slots := 0, locals := 0 } : Room).cells ({ frames := 0, cells := 0, slots := 0, locals := 0 } : Room).slots (fun v h L => v = some (.ref y) ∧ L = [] ∧ h = h0) s₁ (mkF m 0 #[.val (.ref o)] [])
  refine own_st (g' := (mkF m 1 #[.val (.ref o)] [(.ref o)])) (fun _ q => XS.aloadN X0.here hx rfl (hb hby own_d12_0) rfl rfl (q)) ?_
  obtain ⟨T1, X1, e1, st1⟩ := getF X0 hx hZ hown (host := "") (Or.inl (hw _ (List.mem_of_getElem? (i := 116) rfl))) Via.refl e0 F (g := (mkF m 1 #[.val (.ref o)] [(.ref o)])) rfl rfl (hb hby own_d12_1)
  refine own_st (g' := (mkF m 4 #[.val (.ref o)] [(.ref y)])) st1 ?_
  refine own_st (g' := (mkF m 18 #[.val (.ref o)] [(.ref o)])) (fun _ q => XS.ifnonnullYes X1.here hx rfl (pc0 := 4) (pc' := 17) rfl (hb hby own_d12_4) rfl (by decide) (by decide) (XS.aloadN X1.here hx rfl (hb hby own_d12_17) rfl rfl (q))) ?_
  obtain ⟨T2, X2, e2, st2⟩ := getF X1 hx hZ hown (host := "") (Or.inl (hw _ (List.mem_of_getElem? (i := 116) rfl))) Via.refl e1 F (g := (mkF m 18 #[.val (.ref o)] [(.ref o)])) rfl rfl (hb hby own_d12_18)
  refine own_st (g' := (mkF m 21 #[.val (.ref o)] [(.ref y)])) st2 ?_
  exact own_goR X2 hlk hx (t := (.object "java/lang/Object")) rfl rfl Bd.returns (hb hby own_d12_21) ⟨rfl, rfl, e2⟩ (by decide) (by decide)
theorem own_d13_0 : decode prog_100_method_4_code 0 = .ok (.aload_n 0, 1) := by decide +kernel
theorem own_d13_1 : decode prog_100_method_4_code 1 = .ok (.getfield 29, 3) := by decide +kernel
theorem own_d13_4 : decode prog_100_method_4_code 4 = .ok (.areturn, 1) := by decide +kernel
set_option maxRecDepth 65536 in
set_option maxHeartbeats 40000000 in
theorem own_rm_word (l : Launch) (Z : State) (a0 : Array Value) (hw : ∀ d ∈ tables_1, d.before a0 Z = true) (ws : List Jvm.Cond) (o y : Addr) (h0 : Heap) (F : Fld Z h0 o "org/proofstand/runner/VmMode" "word" "Ljava/lang/String;" (.ref y)) :
    MetFree l (⟨"org/proofstand/runner/VmMode", "word", "()Ljava/lang/String;"⟩ : MethodName) (head1 (Jvm.Cond.code (⟨"org/proofstand/runner/VmMode", "word", "()Ljava/lang/String;"⟩ : MethodName) prog_100_method_4_code 1 (some (.object "java/lang/String")) :: ws) ({ frames := 0, cells := 0, slots := 0, locals := 0 } : Room)) (fun aa U => aa = #[(.ref o)] ∧ Z.Warmed39 U.vm ∧ U.heap = h0) (fun _ _ _ _ _ => True) (fun _ U o_ U' => ∃ v L, o_ = .returned v ∧ (fun v h L => v = some (.ref y) ∧ L = [] ∧ h = h0) v U'.heap L ∧ FrameEnd U o_ U' L ({ frames := 0, cells := 0, slots := 0, locals := 0 } : Room).cells ({ frames := 0, cells := 0, slots := 0, locals := 0 } : Room).slots) := by
  refine MetFree.of_bodySF (plainFor_of_name own_pn2) hisR ?_
  intro p e s m args below meth c s₁ Bd hml0 hP hK
  obtain ⟨rfl, hZ, hh⟩ := hP
  have hx := Bd.exec
  have hby := Bd.bytes
  have hml : c.maxLocals = 1 := hml0
  have hlk : meth.locks = false := BodyLoose.notSynchronized Bd
  have hown : s.vm.findClass "org/proofstand/runner/VmMode" = some m.cls := findClass_of_methodNamed Bd.named
  have hnm := (name_of_methodNamed Bd.named Bd.method).1
  have X0 : Stand p l e ({ frames := 0, cells := 0, slots := 0, locals := 0 } : Room) s m #[(.ref o)] below meth c s₁ [] 0 0 := Stand.of_body Bd
  have e0 : s₁.heap = h0 := by rw [← hh, Bd.state]; rfl
  rw [own_ef5 m o]
  show own_Go p e below s ({ frames := 0, cells := 0, slots := 0, locals := 0 } : Room).cells ({ frames := 0, cells := 0, slots := 0, locals := 0 } : Room).slots (fun v h L => v = some (.ref y) ∧ L = [] ∧ h = h0) s₁ (mkF m 0 #[.val (.ref o)] [])
  refine own_st (g' := (mkF m 1 #[.val (.ref o)] [(.ref o)])) (fun _ q => XS.aloadN X0.here hx rfl (hb hby own_d13_0) rfl rfl (q)) ?_
  obtain ⟨T1, X1, e1, st1⟩ := getF X0 hx hZ hown (host := "") (Or.inl (hw _ (List.mem_of_getElem? (i := 93) rfl))) Via.refl e0 F (g := (mkF m 1 #[.val (.ref o)] [(.ref o)])) rfl rfl (hb hby own_d13_1)
  refine own_st (g' := (mkF m 4 #[.val (.ref o)] [(.ref y)])) st1 ?_
  exact own_goR X1 hlk hx (t := (.object "java/lang/String")) rfl rfl Bd.returns (hb hby own_d13_4) ⟨rfl, rfl, e1⟩ (by decide) (by decide)
section OwnStart
variable {s : State} {args : Array Value} {t u : Jvm.Term} {a b : Addr} {cl : Cell} {ty : FieldType} {n j : Int32}
theorem own_len (h : (Jvm.Cond.eq (.length t) (.int n)).value args s none s [] = some true) (ev : t.eval args s none [] s = some (.ref a)) (A : RoadKit.Arr s s.heap a cl ty) : cl.slots.size < 2 ^ 31 ∧ cl.slots.size.toInt32 = n := by
  have hA := A.fin (Vm.Alike.refl _)
  by_cases q : cl.slots.size < 2 ^ 31
  · have e1 := len_f (s := s) ev hA q
    exact ⟨q, gotT (Cond.eq_ints e1 (Term.int_eval n)) h⟩
  · exfalso
    have e1 : (Jvm.Term.length t).eval args s none [] s = none := by simp [Term.eval, ev, hA, q]
    simp [Cond.value, e1] at h
theorem own_elemI (h : (Jvm.Cond.eq (.elem t (.int j)) (.int n)).value args s none s [] = some true) (ev : t.eval args s none [] s = some (.ref a)) (A : RoadKit.Arr s s.heap a cl ty) (hj : ¬ j < 0) : cl.slots[j.toNatClampNeg]? = some (.int n) := by
  have e1 := elem_f (s := s) (first := s) (o := none) (idx := []) (args := args) ev (Term.int_eval j) (A.fin (Vm.Alike.refl _)) hj
  obtain ⟨x, y, h1, h2, h3, h4⟩ := cmp_v (Or.inl h)
  rw [Term.int_eval] at h2
  cases h2
  cases x with
  | int x =>
    have q := gotT (Cond.eq_ints h1 (Term.int_eval n)) h
    rw [← e1, h1, q]
  | _ => simp [Kin, Value.isRef] at h3 h4
theorem own_elemR (h : (Jvm.Cond.eq (.elem t (.int j)) u).value args s none s [] = some true) (ev : t.eval args s none [] s = some (.ref a)) (A : RoadKit.Arr s s.heap a cl ty) (hj : ¬ j < 0) (eu : u.eval args s none [] s = some (.ref b)) : cl.slots[j.toNatClampNeg]? = some (.ref b) := by
  have e1 := elem_f (s := s) (first := s) (o := none) (idx := []) (args := args) ev (Term.int_eval j) (A.fin (Vm.Alike.refl _)) hj
  obtain ⟨x, y, h1, h2, h3, h4⟩ := cmp_v (Or.inl h)
  rw [eu] at h2
  cases h2
  have hr : x.isRef = true := by cases x <;> simp [Kin, Value.isRef] at h3 h4 ⊢
  have q := gotT (eq_R h1 eu hr rfl) h
  rw [← e1, h1, q]
theorem own_fldI {C f d : String} (h : (Jvm.Cond.eq (.field t C f d) (.int n)).value args s none s [] = some true) (ev : t.eval args s none [] s = some (.ref a)) : Fld s s.heap a C f d (.int n) := by
  obtain ⟨x, y, h1, h2, h3, h4⟩ := cmp_v (Or.inl h)
  rw [Term.int_eval] at h2
  cases h2
  cases x with
  | int x =>
    have q := gotT (Cond.eq_ints h1 (Term.int_eval n)) h
    subst q
    rw [fld_at ev] at h1
    exact Fld.start h1
  | _ => simp [Kin, Value.isRef] at h3 h4
theorem own_fldR {C f d : String} {v : Value} (e : (Jvm.Term.field t C f d).eval args s none [] s = some v) (ev : t.eval args s none [] s = some (.ref a)) : Fld s s.heap a C f d v := by
  rw [fld_at ev] at e
  exact Fld.start e
theorem own_hasl1 {v : Value} {r : List Value} {i : Nat} (h : cl.slots[i]? = some v) (q : HasL cl (i + 1) r) : HasL cl i (v :: r) := ⟨h, q⟩
end OwnStart

theorem own_nar_idem (x : Int32) : nar .char (nar .char x) = nar .char x := by simp only [nar, UInt32.toUInt32_toInt32, UInt16.toUInt16_toUInt32]
theorem own_nar_small (c : Int32) (h : ¬ c < 0 ∧ ¬ (255 : Int32) < c) : nar .char c = c := by
  have t : ∀ k : Fin 256, nar .char (Int32.ofNat k.val) = Int32.ofNat k.val := by decide +kernel
  obtain ⟨h0, h1⟩ := h
  rw [Int32.lt_iff_toInt_lt] at h0 h1
  have e0 : (0 : Int32).toInt = 0 := rfl
  have e1 : (255 : Int32).toInt = 255 := rfl
  obtain ⟨k, hk⟩ : ∃ k : Nat, c.toInt = k := ⟨c.toInt.toNat, by omega⟩
  have hx : c = Int32.ofNat k := Int32.toInt_inj.mp (by rw [hk, Int32.toInt_ofNat_small (by omega)])
  rw [hx]
  exact t ⟨k, by omega⟩
theorem own_and255 (x : Int32) : ¬ nar .char ((x &&& (255 : Int32)).toUInt32.toUInt16.toUInt32.toInt32) < 0 ∧ ¬ (255 : Int32) < nar .char ((x &&& (255 : Int32)).toUInt32.toUInt16.toUInt32.toInt32) := by
  have t : ∀ k : Fin 256, ¬ nar .char ((Int32.ofNat k.val).toUInt32.toUInt16.toUInt32.toInt32) < 0 ∧ ¬ (255 : Int32) < nar .char ((Int32.ofNat k.val).toUInt32.toUInt16.toUInt32.toInt32) := by decide +kernel
  have h : (x &&& 255).toBitVec.toNat < 256 := by
    simp only [Int32.toBitVec_and, BitVec.toNat_and]
    exact Nat.lt_succ_of_le Nat.and_le_right
  have e : (x &&& 255) = Int32.ofNat (x &&& 255).toBitVec.toNat := by
    apply Int32.toBitVec_inj.mp
    show _ = BitVec.ofNat 32 _
    rw [BitVec.ofNat_toNat]; simp
  rw [e]
  exact t ⟨_, h⟩
theorem own_getD_rng (cs : List Int32) (k : Nat) (h : ∀ c ∈ cs, ¬ c < 0 ∧ ¬ (255 : Int32) < c) : ¬ cs.getD k 0 < 0 ∧ ¬ (255 : Int32) < cs.getD k 0 := by
  rw [List.getD_eq_getElem?_getD]
  cases q : cs[k]? with
  | none => exact ⟨by decide, by decide⟩
  | some c => exact h c (List.mem_of_getElem? q)
theorem own_at_rng (cs : List Int32) (k : Nat) (i pos mu rep fl : Int32) (h : ∀ c ∈ cs, ¬ c < 0 ∧ ¬ (255 : Int32) < c) (hr : ¬ nar .char rep < 0 ∧ ¬ (255 : Int32) < nar .char rep) (hf : ¬ nar .char fl < 0 ∧ ¬ (255 : Int32) < nar .char fl) : ¬ nar .char (own_f_at cs k i pos mu rep fl) < 0 ∧ ¬ (255 : Int32) < nar .char (own_f_at cs k i pos mu rep fl) := by
  have hg := own_getD_rng cs k h
  unfold own_f_at
  repeat' split
  all_goals rw [own_nar_idem]
  all_goals first | exact hr | exact hf | (rw [own_nar_small _ hg]; exact hg)
theorem own_bs_rng (n d0 d1 d2 d3 d4 d5 d6 : Int32) (g0 : ¬ d0 < 0 ∧ ¬ (255 : Int32) < d0) (g1 : ¬ d1 < 0 ∧ ¬ (255 : Int32) < d1) (g2 : ¬ d2 < 0 ∧ ¬ (255 : Int32) < d2) (g3 : ¬ d3 < 0 ∧ ¬ (255 : Int32) < d3) (g4 : ¬ d4 < 0 ∧ ¬ (255 : Int32) < d4) (g5 : ¬ d5 < 0 ∧ ¬ (255 : Int32) < d5) (g6 : ¬ d6 < 0 ∧ ¬ (255 : Int32) < d6) : ∀ c ∈ own_bs n d0 d1 d2 d3 d4 d5 d6, ¬ c < 0 ∧ ¬ (65535 : Int32) < c := by
  have up : ∀ c : Int32, (¬ c < 0 ∧ ¬ (255 : Int32) < c) → ¬ c < 0 ∧ ¬ (65535 : Int32) < c := fun c h => ⟨h.1, fun q => h.2 (by rw [Int32.lt_iff_toInt_lt] at q ⊢; have e1 : (65535 : Int32).toInt = 65535 := rfl; have e2 : (255 : Int32).toInt = 255 := rfl; omega)⟩
  intro c hc
  apply up
  unfold own_bs at hc
  have hp : ∀ c ∈ ([d0, d1, d2, d3, d4, d5, d6] : List Int32), ¬ c < 0 ∧ ¬ (255 : Int32) < c := by
    intro c hc
    simp only [List.mem_cons, List.not_mem_nil, or_false] at hc
    rcases hc with h | h | h | h | h | h | h <;> rw [h] <;> assumption
  repeat' split at hc
  · nomatch hc
  · exact hp c (List.mem_append_left [d1, d2, d3, d4, d5, d6] hc)
  · exact hp c (List.mem_append_left [d2, d3, d4, d5, d6] hc)
  · exact hp c (List.mem_append_left [d3, d4, d5, d6] hc)
  · exact hp c (List.mem_append_left [d4, d5, d6] hc)
  · exact hp c (List.mem_append_left [d5, d6] hc)
  · exact hp c (List.mem_append_left [d6] hc)
  · exact hp c hc
theorem own_bs_len (n d0 d1 d2 d3 d4 d5 d6 : Int32) : (own_bs n d0 d1 d2 d3 d4 d5 d6).length ≤ 4000 := by
  unfold own_bs
  repeat' split
  all_goals exact Nat.le_of_ble_eq_true rfl
theorem own_shS : ∀ c ∈ own_shared, ¬ c < 0 ∧ ¬ (255 : Int32) < c := by decide
theorem own_shF : ∀ c ∈ own_fresh, ¬ c < 0 ∧ ¬ (255 : Int32) < c := by decide
theorem own_ef10 (m : MethodId) (x0 : Int32) (x1 : Int32) (x2 : Int32) (x3 : Int32) : entryFrame m #[(.int x0), (.int x1), (.int x2), (.int x3)] maxLocals = mkF m 0 #[.val (.int x0), .val (.int x1), .val (.int x2), .val (.int x3), .unset, .unset, .unset, .unset, .unset, .unset, .unset, .unset, .unset, .unset] [] := by first | (simp [entryFrame, mkF, argsToLocals, Value.category, maxLocals]; done) | rfl
theorem own_pd11 : parseMethodDescriptor "(Ljava/lang/String;IIZCC)Ljava/lang/String;" = some ⟨[(.object "java/lang/String"), .int, .int, .boolean, .char, .char], some (.object "java/lang/String")⟩ := by decide +kernel
theorem own_pd12 : parseMethodDescriptor "(Ljava/lang/String;)Ljava/util/Optional;" = some ⟨[(.object "java/lang/String")], some (.object "java/util/Optional")⟩ := by decide +kernel
theorem own_pd13 : parseMethodDescriptor "()Z" = some ⟨[], some .boolean⟩ := by decide +kernel
theorem own_pd14 : parseMethodDescriptor "()Ljava/lang/Object;" = some ⟨[], some (.object "java/lang/Object")⟩ := by decide +kernel
theorem own_pd15 : parseMethodDescriptor "()Ljava/lang/String;" = some ⟨[], some (.object "java/lang/String")⟩ := by decide +kernel
set_option maxRecDepth 65536 in
set_option maxHeartbeats 40000000 in
theorem own_rm_law (l : Launch) (Z : State) (a0 : Array Value) (hw : ∀ d ∈ tables_1, d.before a0 Z = true) (ws : List Jvm.Cond) (p0 p1 p2 p3 z : Int32) (fm : Value) (aV aS aF aE wS tS wF tF : Addr) (kv kS kF : ClassId) (n0 : Nat) (h0 : Heap) (Z0 : n0 ≤ h0.size) (X00 : Old Z n0 h0) (O : Sta Z Z.heap "java/lang/String" "COMPACT_STRINGS" "Z" (.int z)) (hz : ¬ z = (0 : Int32)) (Om : Sta Z Z.heap "jdk/internal/util/Preconditions" "SIOOBE_FORMATTER" "Ljava/util/function/BiFunction;" fm) (rf : fm.isRef = true) (OV : Sta Z Z.heap "org/proofstand/runner/VmMode" "$VALUES" "[Lorg/proofstand/runner/VmMode;" (.ref aV)) (VV : Arv Z Z.heap aV kv (.object "org/proofstand/runner/VmMode") (2 : Int32) [(.ref aS), (.ref aF)] .null) (EV : Exa Z Z.heap aV "[Lorg/proofstand/runner/VmMode;") (OE : Sta Z Z.heap "java/util/Optional" "EMPTY" "Ljava/util/Optional;" (.ref aE)) (EE : Exa Z Z.heap aE "java/util/Optional") (FE : Fld Z Z.heap aE "java/util/Optional" "value" "Ljava/lang/Object;" .null) (ES : Exa Z Z.heap wS "java/lang/String") (FS : Fld Z Z.heap wS "java/lang/String" "value" "[B" (.ref tS)) (CS : Fld Z Z.heap wS "java/lang/String" "coder" "B" (.int (0 : Int32))) (KS : Arv Z Z.heap tS kS .byte (6 : Int32) own_vsS (.int (0 : Int32))) (MS : Fld Z Z.heap aS "org/proofstand/runner/VmMode" "word" "Ljava/lang/String;" (.ref wS)) (EMS : Exa Z Z.heap aS "org/proofstand/runner/VmMode") (EF : Exa Z Z.heap wF "java/lang/String") (FF : Fld Z Z.heap wF "java/lang/String" "value" "[B" (.ref tF)) (CF : Fld Z Z.heap wF "java/lang/String" "coder" "B" (.int (0 : Int32))) (KF : Arv Z Z.heap tF kF .byte (5 : Int32) own_vsF (.int (0 : Int32))) (MF : Fld Z Z.heap aF "org/proofstand/runner/VmMode" "word" "Ljava/lang/String;" (.ref wF)) (EMF : Exa Z Z.heap aF "org/proofstand/runner/VmMode") (OS : Sta Z Z.heap "org/proofstand/runner/VmMode" "SHARED" "Lorg/proofstand/runner/VmMode;" (.ref aS)) (OF_ : Sta Z Z.heap "org/proofstand/runner/VmMode" "FRESH" "Lorg/proofstand/runner/VmMode;" (.ref aF)) :
    MetFree l x (head1 (Jvm.Cond.code x code maxLocals ret :: ws) room_1) (fun aa U => aa = #[(.int p0), (.int p1), (.int p2), (.int p3)] ∧ Z.Warmed39 U.vm ∧ U.heap = h0 ∧ CHv Z own_EL U.vm h0 ∧ ∀ y_ ∈ ([] : List Addr), Safe Z own_EL U.vm h0 y_) (fun _ _ _ _ _ => True) (fun _ U o_ U' => ∃ v L, o_ = .returned v ∧ (fun v h L => v = some (.int (1 : Int32)) ∧ Fr n0 L) v U'.heap L ∧ CHr Z own_EL U.vm U.heap U'.vm U'.heap ∧ ReturnedEndW U o_ U' L room_1.cells room_1.slots) := by
  refine MetFree.of_bodySF (plainFor_of_name own_pn0) hisR ?_
  intro p e s m args below meth c s₁ Bd hml0 hP hK
  obtain ⟨rfl, hZ, hh, hH, hSf⟩ := hP
  have hx := Bd.exec
  have hby := Bd.bytes
  have hml : c.maxLocals = 14 := hml0
  have hlk : meth.locks = false := BodyLoose.notSynchronized Bd
  have hown : s.vm.findClass "org/proofstand/runner/VmModeNamedPinLaw" = some m.cls := findClass_of_methodNamed Bd.named
  have hnm := (name_of_methodNamed Bd.named Bd.method).1
  have X0 : Stand p l e room_1 (s.setVm s.vm) m #[(.int p0), (.int p1), (.int p2), (.int p3)] below meth c s₁ [] 0 0 := Stand.of_body Bd
  have e0 : s₁.heap = h0 := by rw [← hh, Bd.state]; rfl
  have hEL : EW Z a0 own_EL := own_ew hw
  have hSA : ∀ a ∈ Bundle.stringAtoms, a.before a0 Z = true := own_wS hw
  have W0 : own_W s Z own_EL "org/proofstand/runner/VmModeNamedPinLaw" m.cls h0 s.vm h0 := own_W.start hZ hown hH
  rw [own_ef10 m p0 p1 p2 p3]
  show own_GoW p e below s Z own_EL room_1.cells room_1.slots (fun v h L => v = some (.int (1 : Int32)) ∧ Fr n0 L) s₁ (mkF m 0 #[.val (.int p0), .val (.int p1), .val (.int p2), .val (.int p3), .unset, .unset, .unset, .unset, .unset, .unset, .unset, .unset, .unset, .unset] [])
  have N0 := Fr.nil n0
  refine own_stW (g' := (mkF m 3 #[.val (.int p0), .val (.int p1), .val (.int p2), .val (.int p3), .unset, .unset, .unset, .unset, .unset, .unset, .unset, .unset, .unset, .unset] [(.int (p0 &&& (1 : Int32)))])) (fun _ q => XS.iloadN X0.here hx rfl (hb hby at_0) rfl (XS.iconst X0.here hx rfl (hb hby at_1) (XS.iand X0.here hx rfl (hb hby at_2) rfl (q)))) ?_
  by_cases hc1 : (p0 &&& (1 : Int32)) = (0 : Int32)
  · -- (p0 &&& (1 : Int32)) = (0 : Int32)
    refine own_stW (g' := (mkF m 6 #[.val (.int p0), .val (.int p1), .val (.int p2), .val (.int p3), .unset, .unset, .unset, .unset, .unset, .unset, .unset, .unset, .unset, .unset] [])) (fun _ q => XS.ifNo X0.here hx rfl (hb hby at_3) rfl ((if0 _ _).trans (teq hc1).2) (q)) ?_
    obtain ⟨a2, T2, h2, t2, kb2, X2, e2, E2, w2, sf2, Ea2, Ca2, Fa2, Va2, ns2, st2⟩ := own_ldcC X0 hx W0 hEL (hw _ (List.mem_of_getElem? (i := 0) rfl)) hSA e0 (by decide) (vs := [(.int (115 : Int32)), (.int (104 : Int32)), (.int (97 : Int32)), (.int (114 : Int32)), (.int (101 : Int32)), (.int (100 : Int32))]) (z := (6 : Int32)) (by decide) (by decide) rfl (pc := 6) (Ls := #[.val (.int p0), .val (.int p1), .val (.int p2), .val (.int p3), .unset, .unset, .unset, .unset, .unset, .unset, .unset, .unset, .unset, .unset]) (stk := []) (hb hby at_6) (n := 24) (by decide) (by decide) (by decide) (by decide)
    refine own_stW (g' := (mkF m 8 #[.val (.int p0), .val (.int p1), .val (.int p2), .val (.int p3), .unset, .unset, .unset, .unset, .unset, .unset, .unset, .unset, .unset, .unset] [(.ref a2)])) st2 ?_
    refine own_stW (g' := (mkF m 20 #[.val (.int p0), .val (.int p1), .val (.int p2), .val (.int p3), .val (.ref a2), .unset, .unset, .unset, .unset, .unset, .unset, .unset, .unset, .unset] [(.int (((p0.toUInt32 >>> ((1 : Int32) &&& 31).toUInt32).toInt32) &&& (1 : Int32)))])) (fun _ q => XS.goto X2.here hx rfl (pc0 := 8) (pc' := 13) rfl (hb hby at_8) (by decide) (by decide) (XS.astore X2.here hx rfl (hb hby at_13) rfl rfl (l' := #[.val (.int p0), .val (.int p1), .val (.int p2), .val (.int p3), .val (.ref a2), .unset, .unset, .unset, .unset, .unset, .unset, .unset, .unset, .unset]) rfl (XS.iloadN X2.here hx rfl (hb hby at_15) rfl (XS.iconst X2.here hx rfl (hb hby at_16) (XS.iushr X2.here hx rfl (hb hby at_17) rfl (XS.iconst X2.here hx rfl (hb hby at_18) (XS.iand X2.here hx rfl (hb hby at_19) rfl (q)))))))) ?_
    obtain ⟨_, _, ⟨rfl, z3, hz3, rfl⟩, st3⟩ : own_Re p e below (fun T' g' => T2 = T' ∧ ∃ z : Int32, z = (if (((p0.toUInt32 >>> ((1 : Int32) &&& 31).toUInt32).toInt32) &&& (1 : Int32)) = (0 : Int32) then (0 : Int32) else (1 : Int32)) ∧ g' = (mkF m 28 #[.val (.int p0), .val (.int p1), .val (.int p2), .val (.int p3), .val (.ref a2), .unset, .unset, .unset, .unset, .unset, .unset, .unset, .unset, .unset] [(.int z)])) T2 (mkF m 20 #[.val (.int p0), .val (.int p1), .val (.int p2), .val (.int p3), .val (.ref a2), .unset, .unset, .unset, .unset, .unset, .unset, .unset, .unset, .unset] [(.int (((p0.toUInt32 >>> ((1 : Int32) &&& 31).toUInt32).toInt32) &&& (1 : Int32)))]) := by
      by_cases hc3 : (((p0.toUInt32 >>> ((1 : Int32) &&& 31).toUInt32).toInt32) &&& (1 : Int32)) = (0 : Int32)
      · skip
        refine own_stR (g' := (mkF m 28 #[.val (.int p0), .val (.int p1), .val (.int p2), .val (.int p3), .val (.ref a2), .unset, .unset, .unset, .unset, .unset, .unset, .unset, .unset, .unset] [(.int (0 : Int32))])) (fun _ q => XS.ifYes X2.here hx rfl (pc0 := 20) (pc' := 27) rfl (hb hby at_20) rfl ((if0 _ _).trans (teq hc3).1) (by decide) (by decide) (XS.iconst X2.here hx rfl (hb hby at_27) (q))) ?_
        exact own_reI ⟨rfl, _, (if_pos hc3).symm, rfl⟩
      · skip
        refine own_stR (g' := (mkF m 28 #[.val (.int p0), .val (.int p1), .val (.int p2), .val (.int p3), .val (.ref a2), .unset, .unset, .unset, .unset, .unset, .unset, .unset, .unset, .unset] [(.int (1 : Int32))])) (fun _ q => XS.ifNo X2.here hx rfl (hb hby at_20) rfl ((if0 _ _).trans (feq hc3).1) (XS.iconst X2.here hx rfl (hb hby at_23) (XS.goto X2.here hx rfl (pc0 := 24) (pc' := 28) rfl (hb hby at_24) (by decide) (by decide) (q)))) ?_
        exact own_reI ⟨rfl, _, (if_neg hc3).symm, rfl⟩
    refine own_stW (g' := (mkF m 28 #[.val (.int p0), .val (.int p1), .val (.int p2), .val (.int p3), .val (.ref a2), .unset, .unset, .unset, .unset, .unset, .unset, .unset, .unset, .unset] [(.int z3)])) st3 ?_
    refine own_stW (g' := (mkF m 36 #[.val (.int p0), .val (.int p1), .val (.int p2), .val (.int p3), .val (.ref a2), .val (.int z3), .unset, .unset, .unset, .unset, .unset, .unset, .unset, .unset] [(.int (3 : Int32)), (.int (((p0.toUInt32 >>> ((2 : Int32) &&& 31).toUInt32).toInt32) &&& (3 : Int32)))])) (fun _ q => XS.istore X2.here hx rfl (hb hby at_28) rfl (l' := #[.val (.int p0), .val (.int p1), .val (.int p2), .val (.int p3), .val (.ref a2), .val (.int z3), .unset, .unset, .unset, .unset, .unset, .unset, .unset, .unset]) rfl (XS.iloadN X2.here hx rfl (hb hby at_30) rfl (XS.iconst X2.here hx rfl (hb hby at_31) (XS.iushr X2.here hx rfl (hb hby at_32) rfl (XS.iconst X2.here hx rfl (hb hby at_33) (XS.iand X2.here hx rfl (hb hby at_34) rfl (XS.iconst X2.here hx rfl (hb hby at_35) (q)))))))) ?_
    obtain ⟨_, _, ⟨rfl, z4, hz4, rfl⟩, st4⟩ : own_Re p e below (fun T' g' => T2 = T' ∧ ∃ z : Int32, z = (if (((p0.toUInt32 >>> ((2 : Int32) &&& 31).toUInt32).toInt32) &&& (3 : Int32)) = (3 : Int32) then (1 : Int32) else (0 : Int32)) ∧ g' = (mkF m 44 #[.val (.int p0), .val (.int p1), .val (.int p2), .val (.int p3), .val (.ref a2), .val (.int z3), .unset, .unset, .unset, .unset, .unset, .unset, .unset, .unset] [(.int z)])) T2 (mkF m 36 #[.val (.int p0), .val (.int p1), .val (.int p2), .val (.int p3), .val (.ref a2), .val (.int z3), .unset, .unset, .unset, .unset, .unset, .unset, .unset, .unset] [(.int (3 : Int32)), (.int (((p0.toUInt32 >>> ((2 : Int32) &&& 31).toUInt32).toInt32) &&& (3 : Int32)))]) := by
      by_cases hc4 : (((p0.toUInt32 >>> ((2 : Int32) &&& 31).toUInt32).toInt32) &&& (3 : Int32)) = (3 : Int32)
      · skip
        refine own_stR (g' := (mkF m 44 #[.val (.int p0), .val (.int p1), .val (.int p2), .val (.int p3), .val (.ref a2), .val (.int z3), .unset, .unset, .unset, .unset, .unset, .unset, .unset, .unset] [(.int (1 : Int32))])) (fun _ q => XS.icmpNo X2.here hx rfl (hb hby at_36) rfl (teq hc4).2 (XS.iconst X2.here hx rfl (hb hby at_39) (XS.goto X2.here hx rfl (pc0 := 40) (pc' := 44) rfl (hb hby at_40) (by decide) (by decide) (q)))) ?_
        exact own_reI ⟨rfl, _, (if_pos hc4).symm, rfl⟩
      · skip
        refine own_stR (g' := (mkF m 44 #[.val (.int p0), .val (.int p1), .val (.int p2), .val (.int p3), .val (.ref a2), .val (.int z3), .unset, .unset, .unset, .unset, .unset, .unset, .unset, .unset] [(.int (0 : Int32))])) (fun _ q => XS.icmpYes X2.here hx rfl (pc0 := 36) (pc' := 43) rfl (hb hby at_36) rfl (feq hc4).2 (by decide) (by decide) (XS.iconst X2.here hx rfl (hb hby at_43) (q))) ?_
        exact own_reI ⟨rfl, _, (if_neg hc4).symm, rfl⟩
    refine own_stW (g' := (mkF m 44 #[.val (.int p0), .val (.int p1), .val (.int p2), .val (.int p3), .val (.ref a2), .val (.int z3), .unset, .unset, .unset, .unset, .unset, .unset, .unset, .unset] [(.int z4)])) st4 ?_
    refine own_stW (g' := (mkF m 56 #[.val (.int p0), .val (.int p1), .val (.int p2), .val (.int p3), .val (.ref a2), .val (.int z3), .val (.int z4), .val (.int (p1 &&& (15 : Int32))), .unset, .unset, .unset, .unset, .unset, .unset] [(.int (8 : Int32)), (.int (p1 &&& (15 : Int32)))])) (fun _ q => XS.istore X2.here hx rfl (hb hby at_44) rfl (l' := #[.val (.int p0), .val (.int p1), .val (.int p2), .val (.int p3), .val (.ref a2), .val (.int z3), .val (.int z4), .unset, .unset, .unset, .unset, .unset, .unset, .unset]) rfl (XS.iloadN X2.here hx rfl (hb hby at_46) rfl (XS.bipush X2.here hx rfl (hb hby at_47) (XS.iand X2.here hx rfl (hb hby at_49) rfl (XS.istore X2.here hx rfl (hb hby at_50) rfl (l' := #[.val (.int p0), .val (.int p1), .val (.int p2), .val (.int p3), .val (.ref a2), .val (.int z3), .val (.int z4), .val (.int (p1 &&& (15 : Int32))), .unset, .unset, .unset, .unset, .unset, .unset]) rfl (XS.iload X2.here hx rfl (hb hby at_52) rfl (XS.bipush X2.here hx rfl (hb hby at_54) (q)))))))) ?_
    by_cases hc5 : (p1 &&& (15 : Int32)) < (8 : Int32)
    · -- (p1 &&& (15 : Int32)) < (8 : Int32)
      refine own_stW (g' := (mkF m 87 #[.val (.int p0), .val (.int p1), .val (.int p2), .val (.int p3), .val (.ref a2), .val (.int z3), .val (.int z4), .val (.int (p1 &&& (15 : Int32))), .val (.int (p1 &&& (15 : Int32))), .val (.int ((p3 &&& (255 : Int32)).toUInt32.toUInt16.toUInt32.toInt32)), .unset, .unset, .unset, .unset] [(.int (((p3.toUInt32 >>> ((8 : Int32) &&& 31).toUInt32).toInt32) &&& (255 : Int32)))])) (fun _ q => XS.icmpNo X2.here hx rfl (hb hby at_56) rfl (tlt hc5).2.1 (XS.iload X2.here hx rfl (hb hby at_59) rfl (XS.goto X2.here hx rfl (pc0 := 61) (pc' := 69) rfl (hb hby at_61) (by decide) (by decide) (XS.istore X2.here hx rfl (hb hby at_69) rfl (l' := #[.val (.int p0), .val (.int p1), .val (.int p2), .val (.int p3), .val (.ref a2), .val (.int z3), .val (.int z4), .val (.int (p1 &&& (15 : Int32))), .val (.int (p1 &&& (15 : Int32))), .unset, .unset, .unset, .unset, .unset]) rfl (XS.iloadN X2.here hx rfl (hb hby at_71) rfl (XS.sipush X2.here hx rfl (hb hby at_72) (XS.iand X2.here hx rfl (hb hby at_75) rfl (XS.i2c X2.here hx rfl (hb hby at_76) rfl (XS.istore X2.here hx rfl (hb hby at_77) rfl (l' := #[.val (.int p0), .val (.int p1), .val (.int p2), .val (.int p3), .val (.ref a2), .val (.int z3), .val (.int z4), .val (.int (p1 &&& (15 : Int32))), .val (.int (p1 &&& (15 : Int32))), .val (.int ((p3 &&& (255 : Int32)).toUInt32.toUInt16.toUInt32.toInt32)), .unset, .unset, .unset, .unset]) rfl (XS.iloadN X2.here hx rfl (hb hby at_79) rfl (XS.bipush X2.here hx rfl (hb hby at_80) (XS.iushr X2.here hx rfl (hb hby at_82) rfl (XS.sipush X2.here hx rfl (hb hby at_83) (XS.iand X2.here hx rfl (hb hby at_86) rfl (q))))))))))))))) ?_
      refine own_stW (g' := (mkF m 92 #[.val (.int p0), .val (.int p1), .val (.int p2), .val (.int p3), .val (.ref a2), .val (.int z3), .val (.int z4), .val (.int (p1 &&& (15 : Int32))), .val (.int (p1 &&& (15 : Int32))), .val (.int ((p3 &&& (255 : Int32)).toUInt32.toUInt16.toUInt32.toInt32)), .val (.int ((((p3.toUInt32 >>> ((8 : Int32) &&& 31).toUInt32).toInt32) &&& (255 : Int32)).toUInt32.toUInt16.toUInt32.toInt32)), .unset, .unset, .unset] [(.int z4)])) (fun _ q => XS.i2c X2.here hx rfl (hb hby at_87) rfl (XS.istore X2.here hx rfl (hb hby at_88) rfl (l' := #[.val (.int p0), .val (.int p1), .val (.int p2), .val (.int p3), .val (.ref a2), .val (.int z3), .val (.int z4), .val (.int (p1 &&& (15 : Int32))), .val (.int (p1 &&& (15 : Int32))), .val (.int ((p3 &&& (255 : Int32)).toUInt32.toUInt16.toUInt32.toInt32)), .val (.int ((((p3.toUInt32 >>> ((8 : Int32) &&& 31).toUInt32).toInt32) &&& (255 : Int32)).toUInt32.toUInt16.toUInt32.toInt32)), .unset, .unset, .unset]) rfl (XS.iload X2.here hx rfl (hb hby at_90) rfl (q)))) ?_
      by_cases hc6 : z4 = (0 : Int32)
      · -- z4 = (0 : Int32)
        refine own_stW (g' := (mkF m 113 #[.val (.int p0), .val (.int p1), .val (.int p2), .val (.int p3), .val (.ref a2), .val (.int z3), .val (.int z4), .val (.int (p1 &&& (15 : Int32))), .val (.int (p1 &&& (15 : Int32))), .val (.int ((p3 &&& (255 : Int32)).toUInt32.toUInt16.toUInt32.toInt32)), .val (.int ((((p3.toUInt32 >>> ((8 : Int32) &&& 31).toUInt32).toInt32) &&& (255 : Int32)).toUInt32.toUInt16.toUInt32.toInt32)), .unset, .unset, .unset] [(.int ((((p3.toUInt32 >>> ((8 : Int32) &&& 31).toUInt32).toInt32) &&& (255 : Int32)).toUInt32.toUInt16.toUInt32.toInt32)), (.int ((p3 &&& (255 : Int32)).toUInt32.toUInt16.toUInt32.toInt32)), (.int z3), (.int (p2 &&& (7 : Int32))), (.int (p1 &&& (15 : Int32))), (.ref a2)])) (fun _ q => XS.ifYes X2.here hx rfl (pc0 := 92) (pc' := 99) rfl (hb hby at_92) rfl ((if0 _ _).trans (teq hc6).1) (by decide) (by decide) (XS.aload X2.here hx rfl (hb hby at_99) rfl rfl (XS.iload X2.here hx rfl (hb hby at_101) rfl (XS.iloadN X2.here hx rfl (hb hby at_103) rfl (XS.bipush X2.here hx rfl (hb hby at_104) (XS.iand X2.here hx rfl (hb hby at_106) rfl (XS.iload X2.here hx rfl (hb hby at_107) rfl (XS.iload X2.here hx rfl (hb hby at_109) rfl (XS.iload X2.here hx rfl (hb hby at_111) rfl (q)))))))))) ?_
        obtain ⟨d0, hd0⟩ : ∃ z : Int32, z = nar .char (own_f_at own_shared 0 (0 : Int32) (p2 &&& (7 : Int32)) z3 ((p3 &&& (255 : Int32)).toUInt32.toUInt16.toUInt32.toInt32) ((((p3.toUInt32 >>> ((8 : Int32) &&& 31).toUInt32).toInt32) &&& (255 : Int32)).toUInt32.toUInt16.toUInt32.toInt32)) := ⟨_, rfl⟩
        have gd0 : ¬ d0 < 0 ∧ ¬ (255 : Int32) < d0 := by rw [hd0]; exact own_at_rng _ _ _ _ _ _ _ own_shS (own_and255 _) (own_and255 _)
        obtain ⟨d1, hd1⟩ : ∃ z : Int32, z = nar .char (own_f_at own_shared 1 (1 : Int32) (p2 &&& (7 : Int32)) z3 ((p3 &&& (255 : Int32)).toUInt32.toUInt16.toUInt32.toInt32) ((((p3.toUInt32 >>> ((8 : Int32) &&& 31).toUInt32).toInt32) &&& (255 : Int32)).toUInt32.toUInt16.toUInt32.toInt32)) := ⟨_, rfl⟩
        have gd1 : ¬ d1 < 0 ∧ ¬ (255 : Int32) < d1 := by rw [hd1]; exact own_at_rng _ _ _ _ _ _ _ own_shS (own_and255 _) (own_and255 _)
        obtain ⟨d2, hd2⟩ : ∃ z : Int32, z = nar .char (own_f_at own_shared 2 (2 : Int32) (p2 &&& (7 : Int32)) z3 ((p3 &&& (255 : Int32)).toUInt32.toUInt16.toUInt32.toInt32) ((((p3.toUInt32 >>> ((8 : Int32) &&& 31).toUInt32).toInt32) &&& (255 : Int32)).toUInt32.toUInt16.toUInt32.toInt32)) := ⟨_, rfl⟩
        have gd2 : ¬ d2 < 0 ∧ ¬ (255 : Int32) < d2 := by rw [hd2]; exact own_at_rng _ _ _ _ _ _ _ own_shS (own_and255 _) (own_and255 _)
        obtain ⟨d3, hd3⟩ : ∃ z : Int32, z = nar .char (own_f_at own_shared 3 (3 : Int32) (p2 &&& (7 : Int32)) z3 ((p3 &&& (255 : Int32)).toUInt32.toUInt16.toUInt32.toInt32) ((((p3.toUInt32 >>> ((8 : Int32) &&& 31).toUInt32).toInt32) &&& (255 : Int32)).toUInt32.toUInt16.toUInt32.toInt32)) := ⟨_, rfl⟩
        have gd3 : ¬ d3 < 0 ∧ ¬ (255 : Int32) < d3 := by rw [hd3]; exact own_at_rng _ _ _ _ _ _ _ own_shS (own_and255 _) (own_and255 _)
        obtain ⟨d4, hd4⟩ : ∃ z : Int32, z = nar .char (own_f_at own_shared 4 (4 : Int32) (p2 &&& (7 : Int32)) z3 ((p3 &&& (255 : Int32)).toUInt32.toUInt16.toUInt32.toInt32) ((((p3.toUInt32 >>> ((8 : Int32) &&& 31).toUInt32).toInt32) &&& (255 : Int32)).toUInt32.toUInt16.toUInt32.toInt32)) := ⟨_, rfl⟩
        have gd4 : ¬ d4 < 0 ∧ ¬ (255 : Int32) < d4 := by rw [hd4]; exact own_at_rng _ _ _ _ _ _ _ own_shS (own_and255 _) (own_and255 _)
        obtain ⟨d5, hd5⟩ : ∃ z : Int32, z = nar .char (own_f_at own_shared 5 (5 : Int32) (p2 &&& (7 : Int32)) z3 ((p3 &&& (255 : Int32)).toUInt32.toUInt16.toUInt32.toInt32) ((((p3.toUInt32 >>> ((8 : Int32) &&& 31).toUInt32).toInt32) &&& (255 : Int32)).toUInt32.toUInt16.toUInt32.toInt32)) := ⟨_, rfl⟩
        have gd5 : ¬ d5 < 0 ∧ ¬ (255 : Int32) < d5 := by rw [hd5]; exact own_at_rng _ _ _ _ _ _ _ own_shS (own_and255 _) (own_and255 _)
        obtain ⟨d6, hd6⟩ : ∃ z : Int32, z = nar .char (own_f_at own_shared 6 (6 : Int32) (p2 &&& (7 : Int32)) z3 ((p3 &&& (255 : Int32)).toUInt32.toUInt16.toUInt32.toInt32) ((((p3.toUInt32 >>> ((8 : Int32) &&& 31).toUInt32).toInt32) &&& (255 : Int32)).toUInt32.toUInt16.toUInt32.toInt32)) := ⟨_, rfl⟩
        have gd6 : ¬ d6 < 0 ∧ ¬ (255 : Int32) < d6 := by rw [hd6]; exact own_at_rng _ _ _ _ _ _ _ own_shS (own_and255 _) (own_and255 _)
        have K8 : own_BkW l room_1 p e below s #[(.int p0), (.int p1), (.int p2), (.int p3)] (⟨"org/proofstand/runner/VmModeNamedPinLaw", "build", "(Ljava/lang/String;IIZCC)Ljava/lang/String;"⟩ : MethodName) 0 Z own_EL T2.vm h2 #[(.ref a2), (.int (p1 &&& (15 : Int32))), (.int (p2 &&& (7 : Int32))), (.int z3), (.int ((p3 &&& (255 : Int32)).toUInt32.toUInt16.toUInt32.toInt32)), (.int ((((p3.toUInt32 >>> ((8 : Int32) &&& 31).toUInt32).toInt32) &&& (255 : Int32)).toUInt32.toUInt16.toUInt32.toInt32))] 6 18 (own_Q_build Z a2 t2 kb2 own_shared (6 : Int32) own_vsS (p1 &&& (15 : Int32)) (p2 &&& (7 : Int32)) z3 ((p3 &&& (255 : Int32)).toUInt32.toUInt16.toUInt32.toInt32) ((((p3.toUInt32 >>> ((8 : Int32) &&& 31).toUInt32).toInt32) &&& (255 : Int32)).toUInt32.toUInt16.toUInt32.toInt32) z d0 d1 d2 d3 d4 d5 d6 fm n0 h2) := own_backW (R := room_1) (W := 0) (Qc := (own_Q_build Z a2 t2 kb2 own_shared (6 : Int32) own_vsS (p1 &&& (15 : Int32)) (p2 &&& (7 : Int32)) z3 ((p3 &&& (255 : Int32)).toUInt32.toUInt16.toUInt32.toInt32) ((((p3.toUInt32 >>> ((8 : Int32) &&& 31).toUInt32).toInt32) &&& (255 : Int32)).toUInt32.toUInt16.toUInt32.toInt32) z d0 d1 d2 d3 d4 d5 d6 fm n0 h2)) (rm := ({ frames := 5, cells := 6, slots := 18, locals := 70 } : Room)) (xs := []) (own_rm_build l Z a0 hw [] a2 t2 kb2 own_shared (6 : Int32) own_vsS (p1 &&& (15 : Int32)) (p2 &&& (7 : Int32)) z3 ((p3 &&& (255 : Int32)).toUInt32.toUInt16.toUInt32.toInt32) ((((p3.toUInt32 >>> ((8 : Int32) &&& 31).toUInt32).toInt32) &&& (255 : Int32)).toUInt32.toUInt16.toUInt32.toInt32) z d0 d1 d2 d3 d4 d5 d6 fm n0 h2 Ea2 Fa2 Ca2 Va2 own_codS own_hbS (by decide) O hz Om rf (Nat.le_trans Z0 E2.1) (X00.ext E2) hd0 gd0 hd1 gd1 hd2 gd2 hd3 gd3 hd4 gd4 hd5 gd5 hd6 gd6) w2 (hw _ (List.mem_of_getElem? (i := 11) rfl)) (hw _ (List.mem_of_getElem? (i := 10) rfl)) (by decide) (by decide) hEL all0
        obtain ⟨_, L9, T9, X9, ⟨N9q, K9, x9, t9, kb9, N29, vs9, rfl, u9, E9, F9, Cd9, A9, cod9⟩, w9, C9, st9⟩ := own_cSW X2 hx w2 (hw _ (List.mem_of_getElem? (i := 8) rfl)) (hw _ (List.mem_of_getElem? (i := 9) rfl)) (hw _ (List.mem_of_getElem? (i := 10) rfl)) (hw _ (List.mem_of_getElem? (i := 11) rfl)) (by decide) e2 (h := h2) (argsL := [(.ref a2), (.int (p1 &&& (15 : Int32))), (.int (p2 &&& (7 : Int32))), (.int z3), (.int ((p3 &&& (255 : Int32)).toUInt32.toUInt16.toUInt32.toInt32)), (.int ((((p3.toUInt32 >>> ((8 : Int32) &&& 31).toUInt32).toInt32) &&& (255 : Int32)).toUInt32.toUInt16.toUInt32.toInt32))]) (rest := []) K8 (pc := 113) (Ls := #[.val (.int p0), .val (.int p1), .val (.int p2), .val (.int p3), .val (.ref a2), .val (.int z3), .val (.int z4), .val (.int (p1 &&& (15 : Int32))), .val (.int (p1 &&& (15 : Int32))), .val (.int ((p3 &&& (255 : Int32)).toUInt32.toUInt16.toUInt32.toInt32)), .val (.int ((((p3.toUInt32 >>> ((8 : Int32) &&& 31).toUInt32).toInt32) &&& (255 : Int32)).toUInt32.toUInt16.toUInt32.toInt32)), .unset, .unset, .unset]) (by rw [hml]; rfl) (lenOf own_pd11 rfl) rfl (Nat.le_of_eq rfl) (hb hby at_113) (by decide) (by decide)
        have N9 := Fr.app N0 N9q
        obtain ⟨cs9, hcs9⟩ : ∃ z, z = own_bs (p1 &&& (15 : Int32)) d0 d1 d2 d3 d4 d5 d6 := ⟨_, rfl⟩
        rw [← hcs9] at cod9
        have hb9 : ∀ c ∈ cs9, ¬ c < 0 ∧ ¬ (65535 : Int32) < c := by rw [hcs9]; exact own_bs_rng _ _ _ _ _ _ _ _ gd0 gd1 gd2 gd3 gd4 gd5 gd6
        have l29 : cs9.length ≤ 4000 := by rw [hcs9]; exact own_bs_len _ _ _ _ _ _ _ _
        refine own_stW (g' := (mkF m 116 #[.val (.int p0), .val (.int p1), .val (.int p2), .val (.int p3), .val (.ref a2), .val (.int z3), .val (.int z4), .val (.int (p1 &&& (15 : Int32))), .val (.int (p1 &&& (15 : Int32))), .val (.int ((p3 &&& (255 : Int32)).toUInt32.toUInt16.toUInt32.toInt32)), .val (.int ((((p3.toUInt32 >>> ((8 : Int32) &&& 31).toUInt32).toInt32) &&& (255 : Int32)).toUInt32.toUInt16.toUInt32.toInt32)), .unset, .unset, .unset] [(.ref x9)])) st9 ?_
        refine own_stW (g' := (mkF m 120 #[.val (.int p0), .val (.int p1), .val (.int p2), .val (.int p3), .val (.ref a2), .val (.int z3), .val (.int z4), .val (.int (p1 &&& (15 : Int32))), .val (.int (p1 &&& (15 : Int32))), .val (.int ((p3 &&& (255 : Int32)).toUInt32.toUInt16.toUInt32.toInt32)), .val (.int ((((p3.toUInt32 >>> ((8 : Int32) &&& 31).toUInt32).toInt32) &&& (255 : Int32)).toUInt32.toUInt16.toUInt32.toInt32)), .val (.ref x9), .unset, .unset] [(.ref x9)])) (fun _ q => XS.astore X9.here hx rfl (hb hby at_116) rfl rfl (l' := #[.val (.int p0), .val (.int p1), .val (.int p2), .val (.int p3), .val (.ref a2), .val (.int z3), .val (.int z4), .val (.int (p1 &&& (15 : Int32))), .val (.int (p1 &&& (15 : Int32))), .val (.int ((p3 &&& (255 : Int32)).toUInt32.toUInt16.toUInt32.toInt32)), .val (.int ((((p3.toUInt32 >>> ((8 : Int32) &&& 31).toUInt32).toInt32) &&& (255 : Int32)).toUInt32.toUInt16.toUInt32.toInt32)), .val (.ref x9), .unset, .unset]) rfl (XS.aload X9.here hx rfl (hb hby at_118) rfl rfl (q))) ?_
        have K10 : own_Bk l room_1 p e below (s.setVm T9.vm) #[(.int p0), (.int p1), (.int p2), (.int p3)] (⟨"org/proofstand/runner/VmMode", "named", "(Ljava/lang/String;)Ljava/util/Optional;"⟩ : MethodName) 0 T9.heap #[(.ref x9)] 2 3 (own_Q_named Z x9 t9 kb9 cs9 N29 vs9 aV aS aF aE wS tS wF tF kv kS kF z n0 T9.heap) := backOf (s := (s.setVm T9.vm)) (R := room_1) (W := 0) (Q := (own_Q_named Z x9 t9 kb9 cs9 N29 vs9 aV aS aF aE wS tS wF tF kv kS kF z n0 T9.heap)) (rm := ({ frames := 3, cells := 2, slots := 3, locals := 38 } : Room)) (own_rm_named l Z a0 hw [] x9 t9 kb9 cs9 N29 vs9 aV aS aF aE wS tS wF tF kv kS kF z n0 T9.heap E9 F9 Cd9 A9 cod9 hb9 l29 (Nat.le_trans Z0 (Nat.le_trans E2.1 K9.1)) ((X00.ext E2).keep K9 all0) O hz OV VV EV OE EE FE ES FS CS KS MS EMS EF FF CF KF MF EMF) w9.2.1 (hw _ (List.mem_of_getElem? (i := 75) rfl)) (hw _ (List.mem_of_getElem? (i := 74) rfl)) (by decide) (by decide)
        obtain ⟨_, L11, T11, X11, ⟨N11q, K11, x11, rfl, E11, F11⟩, st11⟩ := own_cS X9 hx w9.2.1 w9.2.2.1 (hw _ (List.mem_of_getElem? (i := 72) rfl)) (hw _ (List.mem_of_getElem? (i := 73) rfl)) (hw _ (List.mem_of_getElem? (i := 74) rfl)) (hw _ (List.mem_of_getElem? (i := 75) rfl)) (by decide) rfl (h := T9.heap) (argsL := [(.ref x9)]) (rest := []) K10 (pc := 120) (Ls := #[.val (.int p0), .val (.int p1), .val (.int p2), .val (.int p3), .val (.ref a2), .val (.int z3), .val (.int z4), .val (.int (p1 &&& (15 : Int32))), .val (.int (p1 &&& (15 : Int32))), .val (.int ((p3 &&& (255 : Int32)).toUInt32.toUInt16.toUInt32.toInt32)), .val (.int ((((p3.toUInt32 >>> ((8 : Int32) &&& 31).toUInt32).toInt32) &&& (255 : Int32)).toUInt32.toUInt16.toUInt32.toInt32)), .val (.ref x9), .unset, .unset]) (by rw [hml]; rfl) (lenOf own_pd12 rfl) rfl (Nat.le_of_eq rfl) (hb hby at_120) (by decide) (by decide)
        have N11 := Fr.app N9 N11q
        have w12 := w9.keep K11 sf0
        refine own_stW (g' := (mkF m 123 #[.val (.int p0), .val (.int p1), .val (.int p2), .val (.int p3), .val (.ref a2), .val (.int z3), .val (.int z4), .val (.int (p1 &&& (15 : Int32))), .val (.int (p1 &&& (15 : Int32))), .val (.int ((p3 &&& (255 : Int32)).toUInt32.toUInt16.toUInt32.toInt32)), .val (.int ((((p3.toUInt32 >>> ((8 : Int32) &&& 31).toUInt32).toInt32) &&& (255 : Int32)).toUInt32.toUInt16.toUInt32.toInt32)), .val (.ref x9), .unset, .unset] [(.ref x11)])) st11 ?_
        refine own_stW (g' := (mkF m 135 #[.val (.int p0), .val (.int p1), .val (.int p2), .val (.int p3), .val (.ref a2), .val (.int z3), .val (.int z4), .val (.int (p1 &&& (15 : Int32))), .val (.int (p1 &&& (15 : Int32))), .val (.int ((p3 &&& (255 : Int32)).toUInt32.toUInt16.toUInt32.toInt32)), .val (.int ((((p3.toUInt32 >>> ((8 : Int32) &&& 31).toUInt32).toInt32) &&& (255 : Int32)).toUInt32.toUInt16.toUInt32.toInt32)), .val (.ref x9), .val (.ref x11), .val .null] [(.ref x9)])) (fun _ q => XS.astore X11.here hx rfl (hb hby at_123) rfl rfl (l' := #[.val (.int p0), .val (.int p1), .val (.int p2), .val (.int p3), .val (.ref a2), .val (.int z3), .val (.int z4), .val (.int (p1 &&& (15 : Int32))), .val (.int (p1 &&& (15 : Int32))), .val (.int ((p3 &&& (255 : Int32)).toUInt32.toUInt16.toUInt32.toInt32)), .val (.int ((((p3.toUInt32 >>> ((8 : Int32) &&& 31).toUInt32).toInt32) &&& (255 : Int32)).toUInt32.toUInt16.toUInt32.toInt32)), .val (.ref x9), .val (.ref x11), .unset]) rfl (XS.aconstNull X11.here hx rfl (hb hby at_125) (XS.astore X11.here hx rfl (hb hby at_126) rfl rfl (l' := #[.val (.int p0), .val (.int p1), .val (.int p2), .val (.int p3), .val (.ref a2), .val (.int z3), .val (.int z4), .val (.int (p1 &&& (15 : Int32))), .val (.int (p1 &&& (15 : Int32))), .val (.int ((p3 &&& (255 : Int32)).toUInt32.toUInt16.toUInt32.toInt32)), .val (.int ((((p3.toUInt32 >>> ((8 : Int32) &&& 31).toUInt32).toInt32) &&& (255 : Int32)).toUInt32.toUInt16.toUInt32.toInt32)), .val (.ref x9), .val (.ref x11), .val .null]) rfl (XS.aload X11.here hx rfl (hb hby at_128) rfl rfl (XS.ifnullNo X11.here hx rfl (hb hby at_130) rfl (XS.aload X11.here hx rfl (hb hby at_133) rfl rfl (q))))))) ?_
        obtain ⟨a13, T13, h13, t13, kb13, X13, e13, E13, w13, sf13, Ea13, Ca13, Fa13, Va13, ns13, st13⟩ := own_ldcC X11 hx w12 hEL (hw _ (List.mem_of_getElem? (i := 0) rfl)) hSA rfl (by decide) (vs := [(.int (115 : Int32)), (.int (104 : Int32)), (.int (97 : Int32)), (.int (114 : Int32)), (.int (101 : Int32)), (.int (100 : Int32))]) (z := (6 : Int32)) (by decide) (by decide) rfl (pc := 135) (Ls := #[.val (.int p0), .val (.int p1), .val (.int p2), .val (.int p3), .val (.ref a2), .val (.int z3), .val (.int z4), .val (.int (p1 &&& (15 : Int32))), .val (.int (p1 &&& (15 : Int32))), .val (.int ((p3 &&& (255 : Int32)).toUInt32.toUInt16.toUInt32.toInt32)), .val (.int ((((p3.toUInt32 >>> ((8 : Int32) &&& 31).toUInt32).toInt32) &&& (255 : Int32)).toUInt32.toUInt16.toUInt32.toInt32)), .val (.ref x9), .val (.ref x11), .val .null]) (stk := [(.ref x9)]) (hb hby at_135) (n := 24) (by decide) (by decide) (by decide) (by decide)
        refine own_stW (g' := (mkF m 137 #[.val (.int p0), .val (.int p1), .val (.int p2), .val (.int p3), .val (.ref a2), .val (.int z3), .val (.int z4), .val (.int (p1 &&& (15 : Int32))), .val (.int (p1 &&& (15 : Int32))), .val (.int ((p3 &&& (255 : Int32)).toUInt32.toUInt16.toUInt32.toInt32)), .val (.int ((((p3.toUInt32 >>> ((8 : Int32) &&& 31).toUInt32).toInt32) &&& (255 : Int32)).toUInt32.toUInt16.toUInt32.toInt32)), .val (.ref x9), .val (.ref x11), .val .null] [(.ref a13), (.ref x9)])) st13 ?_
        have K14 : own_Bk l room_1 p e below (s.setVm T13.vm) #[(.int p0), (.int p1), (.int p2), (.int p3)] (⟨"java/lang/String", "equals", "(Ljava/lang/Object;)Z"⟩ : MethodName) 0 h13 #[(.ref x9), (.ref a13)] 0 0 (fun v h L => ((v = some (.int 1) ∧ cs9 = own_shared) ∨ (v = some (.int 0) ∧ ¬ cs9 = own_shared)) ∧ L = [] ∧ h = h13) := StrChars.Road.eqW (s := (s.setVm T13.vm)) (W := 0) w13.2.1 (own_heq hw) (kI := 4) (hw _ (List.mem_of_getElem? (i := 2) rfl)) ((E9.keep K11).ext E13) ((F9.keep K11 nin0).ext E13) ((Cd9.keep K11 nin0).ext E13) ((A9.keep K11 nin0).ext E13) cod9 hb9 l29 Ea13 Fa13 Ca13 Va13 own_codS own_hbS (by decide) (O.ext ((((X00.ext E2).keep K9 all0).keep K11 all0).ext E13).2) hz (by decide) (by decide)
        obtain ⟨v14, T14, hv14, X14, e14, st14⟩ := own_pureE (A := fun v => ((v = some (.int 1) ∧ cs9 = own_shared) ∨ (v = some (.int 0) ∧ ¬ cs9 = own_shared))) (own_cV X13 hx w13.2.1 w13.2.2.1 (hw _ (List.mem_of_getElem? (i := 109) rfl)) (hw _ (List.mem_of_getElem? (i := 96) rfl)) (notFace_of_selects (args := #[]) (mvT w13.2.1 (hw _ (List.mem_of_getElem? (i := 98) rfl)))) (hw _ (List.mem_of_getElem? (i := 98) rfl)) (hw _ (List.mem_of_getElem? (i := 97) rfl)) (by decide) e13 (h := h13) (b := x9) ((E9.keep K11).ext E13) (argsL := [(.ref a13)]) (rest := []) K14 (pc := 137) (Ls := #[.val (.int p0), .val (.int p1), .val (.int p2), .val (.int p3), .val (.ref a2), .val (.int z3), .val (.int z4), .val (.int (p1 &&& (15 : Int32))), .val (.int (p1 &&& (15 : Int32))), .val (.int ((p3 &&& (255 : Int32)).toUInt32.toUInt16.toUInt32.toInt32)), .val (.int ((((p3.toUInt32 >>> ((8 : Int32) &&& 31).toUInt32).toInt32) &&& (255 : Int32)).toUInt32.toUInt16.toUInt32.toInt32)), .val (.ref x9), .val (.ref x11), .val .null]) (by rw [hml]; rfl) (lenOf own_pd8 rfl) rfl (Nat.le_of_eq rfl) (hb hby at_137) (by decide) (by decide))
        obtain ⟨r14, hr14, rfl⟩ := own_eq01 hv14
        refine own_stW (g' := (mkF m 140 #[.val (.int p0), .val (.int p1), .val (.int p2), .val (.int p3), .val (.ref a2), .val (.int z3), .val (.int z4), .val (.int (p1 &&& (15 : Int32))), .val (.int (p1 &&& (15 : Int32))), .val (.int ((p3 &&& (255 : Int32)).toUInt32.toUInt16.toUInt32.toInt32)), .val (.int ((((p3.toUInt32 >>> ((8 : Int32) &&& 31).toUInt32).toInt32) &&& (255 : Int32)).toUInt32.toUInt16.toUInt32.toInt32)), .val (.ref x9), .val (.ref x11), .val .null] [(.int r14)])) st14 ?_
        by_cases hc15 : r14 = (0 : Int32)
        · -- r14 = (0 : Int32)
          refine own_stW (g' := (mkF m 153 #[.val (.int p0), .val (.int p1), .val (.int p2), .val (.int p3), .val (.ref a2), .val (.int z3), .val (.int z4), .val (.int (p1 &&& (15 : Int32))), .val (.int (p1 &&& (15 : Int32))), .val (.int ((p3 &&& (255 : Int32)).toUInt32.toUInt16.toUInt32.toInt32)), .val (.int ((((p3.toUInt32 >>> ((8 : Int32) &&& 31).toUInt32).toInt32) &&& (255 : Int32)).toUInt32.toUInt16.toUInt32.toInt32)), .val (.ref x9), .val (.ref x11), .val .null] [(.ref x9)])) (fun _ q => XS.ifYes X14.here hx rfl (pc0 := 140) (pc' := 151) rfl (hb hby at_140) rfl ((if0 _ _).trans (teq hc15).1) (by decide) (by decide) (XS.aload X14.here hx rfl (hb hby at_151) rfl rfl (q))) ?_
          obtain ⟨a16, T16, h16, t16, kb16, X16, e16, E16, w16, sf16, Ea16, Ca16, Fa16, Va16, ns16, st16⟩ := own_ldcC X14 hx w13 hEL (hw _ (List.mem_of_getElem? (i := 110) rfl)) hSA e14 (by decide) (vs := [(.int (102 : Int32)), (.int (114 : Int32)), (.int (101 : Int32)), (.int (115 : Int32)), (.int (104 : Int32))]) (z := (5 : Int32)) (by decide) (by decide) rfl (pc := 153) (Ls := #[.val (.int p0), .val (.int p1), .val (.int p2), .val (.int p3), .val (.ref a2), .val (.int z3), .val (.int z4), .val (.int (p1 &&& (15 : Int32))), .val (.int (p1 &&& (15 : Int32))), .val (.int ((p3 &&& (255 : Int32)).toUInt32.toUInt16.toUInt32.toInt32)), .val (.int ((((p3.toUInt32 >>> ((8 : Int32) &&& 31).toUInt32).toInt32) &&& (255 : Int32)).toUInt32.toUInt16.toUInt32.toInt32)), .val (.ref x9), .val (.ref x11), .val .null]) (stk := [(.ref x9)]) (hb hby at_153) (n := 20) (by decide) (by decide) (by decide) (by decide)
          refine own_stW (g' := (mkF m 155 #[.val (.int p0), .val (.int p1), .val (.int p2), .val (.int p3), .val (.ref a2), .val (.int z3), .val (.int z4), .val (.int (p1 &&& (15 : Int32))), .val (.int (p1 &&& (15 : Int32))), .val (.int ((p3 &&& (255 : Int32)).toUInt32.toUInt16.toUInt32.toInt32)), .val (.int ((((p3.toUInt32 >>> ((8 : Int32) &&& 31).toUInt32).toInt32) &&& (255 : Int32)).toUInt32.toUInt16.toUInt32.toInt32)), .val (.ref x9), .val (.ref x11), .val .null] [(.ref a16), (.ref x9)])) st16 ?_
          have K17 : own_Bk l room_1 p e below (s.setVm T16.vm) #[(.int p0), (.int p1), (.int p2), (.int p3)] (⟨"java/lang/String", "equals", "(Ljava/lang/Object;)Z"⟩ : MethodName) 0 h16 #[(.ref x9), (.ref a16)] 0 0 (fun v h L => ((v = some (.int 1) ∧ cs9 = own_fresh) ∨ (v = some (.int 0) ∧ ¬ cs9 = own_fresh)) ∧ L = [] ∧ h = h16) := StrChars.Road.eqW (s := (s.setVm T16.vm)) (W := 0) w16.2.1 (own_heq hw) (kI := 4) (hw _ (List.mem_of_getElem? (i := 2) rfl)) (((E9.keep K11).ext E13).ext E16) (((F9.keep K11 nin0).ext E13).ext E16) (((Cd9.keep K11 nin0).ext E13).ext E16) (((A9.keep K11 nin0).ext E13).ext E16) cod9 hb9 l29 Ea16 Fa16 Ca16 Va16 own_codF own_hbF (by decide) (O.ext (((((X00.ext E2).keep K9 all0).keep K11 all0).ext E13).ext E16).2) hz (by decide) (by decide)
          obtain ⟨v17, T17, hv17, X17, e17, st17⟩ := own_pureE (A := fun v => ((v = some (.int 1) ∧ cs9 = own_fresh) ∨ (v = some (.int 0) ∧ ¬ cs9 = own_fresh))) (own_cV X16 hx w16.2.1 w16.2.2.1 (hw _ (List.mem_of_getElem? (i := 109) rfl)) (hw _ (List.mem_of_getElem? (i := 96) rfl)) (notFace_of_selects (args := #[]) (mvT w16.2.1 (hw _ (List.mem_of_getElem? (i := 98) rfl)))) (hw _ (List.mem_of_getElem? (i := 98) rfl)) (hw _ (List.mem_of_getElem? (i := 97) rfl)) (by decide) e16 (h := h16) (b := x9) (((E9.keep K11).ext E13).ext E16) (argsL := [(.ref a16)]) (rest := []) K17 (pc := 155) (Ls := #[.val (.int p0), .val (.int p1), .val (.int p2), .val (.int p3), .val (.ref a2), .val (.int z3), .val (.int z4), .val (.int (p1 &&& (15 : Int32))), .val (.int (p1 &&& (15 : Int32))), .val (.int ((p3 &&& (255 : Int32)).toUInt32.toUInt16.toUInt32.toInt32)), .val (.int ((((p3.toUInt32 >>> ((8 : Int32) &&& 31).toUInt32).toInt32) &&& (255 : Int32)).toUInt32.toUInt16.toUInt32.toInt32)), .val (.ref x9), .val (.ref x11), .val .null]) (by rw [hml]; rfl) (lenOf own_pd8 rfl) rfl (Nat.le_of_eq rfl) (hb hby at_155) (by decide) (by decide))
          obtain ⟨r17, hr17, rfl⟩ := own_eq01 hv17
          refine own_stW (g' := (mkF m 158 #[.val (.int p0), .val (.int p1), .val (.int p2), .val (.int p3), .val (.ref a2), .val (.int z3), .val (.int z4), .val (.int (p1 &&& (15 : Int32))), .val (.int (p1 &&& (15 : Int32))), .val (.int ((p3 &&& (255 : Int32)).toUInt32.toUInt16.toUInt32.toInt32)), .val (.int ((((p3.toUInt32 >>> ((8 : Int32) &&& 31).toUInt32).toInt32) &&& (255 : Int32)).toUInt32.toUInt16.toUInt32.toInt32)), .val (.ref x9), .val (.ref x11), .val .null] [(.int r17)])) st17 ?_
          by_cases hc18 : r17 = (0 : Int32)
          · -- r17 = (0 : Int32)
            refine own_stW (g' := (mkF m 173 #[.val (.int p0), .val (.int p1), .val (.int p2), .val (.int p3), .val (.ref a2), .val (.int z3), .val (.int z4), .val (.int (p1 &&& (15 : Int32))), .val (.int (p1 &&& (15 : Int32))), .val (.int ((p3 &&& (255 : Int32)).toUInt32.toUInt16.toUInt32.toInt32)), .val (.int ((((p3.toUInt32 >>> ((8 : Int32) &&& 31).toUInt32).toInt32) &&& (255 : Int32)).toUInt32.toUInt16.toUInt32.toInt32)), .val (.ref x9), .val (.ref x11), .val .null] [(.ref x11)])) (fun _ q => XS.ifYes X17.here hx rfl (pc0 := 158) (pc' := 166) rfl (hb hby at_158) rfl ((if0 _ _).trans (teq hc18).1) (by decide) (by decide) (XS.aload X17.here hx rfl (hb hby at_166) rfl rfl (XS.ifnonnullNo X17.here hx rfl (hb hby at_168) rfl (XS.aload X17.here hx rfl (hb hby at_171) rfl rfl (q))))) ?_
            have Fo19 : Fld Z h16 x11 "java/util/Optional" "value" "Ljava/lang/Object;" .null := by have F := ((F11.ext E13).ext E16); rw [if_neg (fun q => own_r0 hr14 hc15 q.symm), if_neg (fun q => own_r0 hr17 hc18 q.symm)] at F; exact F
            obtain ⟨r20, hr20⟩ : ∃ z : Int32, z = own_f_isp0 := ⟨_, rfl⟩
            have K20 : own_Bk l room_1 p e below (s.setVm T16.vm) #[(.int p0), (.int p1), (.int p2), (.int p3)] (⟨"java/util/Optional", "isPresent", "()Z"⟩ : MethodName) 0 h16 #[(.ref x11)] 0 0 (fun v h L => v = some (.int r20) ∧ L = [] ∧ h = h16) := backOf (s := (s.setVm T16.vm)) (R := room_1) (W := 0) (Q := (fun v h L => v = some (.int r20) ∧ L = [] ∧ h = h16)) (rm := ({ frames := 0, cells := 0, slots := 0, locals := 0 } : Room)) (own_rm_isp0 l Z a0 hw [] x11 r20 h16 Fo19 (by rw [hr20])) w16.2.1 (hw _ (List.mem_of_getElem? (i := 115) rfl)) (hw _ (List.mem_of_getElem? (i := 106) rfl)) (by decide) (by decide)
            obtain ⟨T21, X21, e21, st21⟩ := own_pure (own_cV X17 hx w16.2.1 w16.2.2.1 (hw _ (List.mem_of_getElem? (i := 111) rfl)) (hw _ (List.mem_of_getElem? (i := 112) rfl)) (notFace_of_selects (args := #[]) (mvT w16.2.1 (hw _ (List.mem_of_getElem? (i := 114) rfl)))) (hw _ (List.mem_of_getElem? (i := 114) rfl)) (hw _ (List.mem_of_getElem? (i := 113) rfl)) (by decide) e17 (h := h16) (b := x11) ((E11.ext E13).ext E16) (argsL := []) (rest := []) K20 (pc := 173) (Ls := #[.val (.int p0), .val (.int p1), .val (.int p2), .val (.int p3), .val (.ref a2), .val (.int z3), .val (.int z4), .val (.int (p1 &&& (15 : Int32))), .val (.int (p1 &&& (15 : Int32))), .val (.int ((p3 &&& (255 : Int32)).toUInt32.toUInt16.toUInt32.toInt32)), .val (.int ((((p3.toUInt32 >>> ((8 : Int32) &&& 31).toUInt32).toInt32) &&& (255 : Int32)).toUInt32.toUInt16.toUInt32.toInt32)), .val (.ref x9), .val (.ref x11), .val .null]) (by rw [hml]; rfl) (lenOf own_pd13 rfl) rfl (Nat.le_of_eq rfl) (hb hby at_173) (by decide) (by decide))
            refine own_stW (g' := (mkF m 176 #[.val (.int p0), .val (.int p1), .val (.int p2), .val (.int p3), .val (.ref a2), .val (.int z3), .val (.int z4), .val (.int (p1 &&& (15 : Int32))), .val (.int (p1 &&& (15 : Int32))), .val (.int ((p3 &&& (255 : Int32)).toUInt32.toUInt16.toUInt32.toInt32)), .val (.int ((((p3.toUInt32 >>> ((8 : Int32) &&& 31).toUInt32).toInt32) &&& (255 : Int32)).toUInt32.toUInt16.toUInt32.toInt32)), .val (.ref x9), .val (.ref x11), .val .null] [(.int r20)])) st21 ?_
            refine own_stW (g' := (mkF m 184 #[.val (.int p0), .val (.int p1), .val (.int p2), .val (.int p3), .val (.ref a2), .val (.int z3), .val (.int z4), .val (.int (p1 &&& (15 : Int32))), .val (.int (p1 &&& (15 : Int32))), .val (.int ((p3 &&& (255 : Int32)).toUInt32.toUInt16.toUInt32.toInt32)), .val (.int ((((p3.toUInt32 >>> ((8 : Int32) &&& 31).toUInt32).toInt32) &&& (255 : Int32)).toUInt32.toUInt16.toUInt32.toInt32)), .val (.ref x9), .val (.ref x11), .val .null] [(.int (1 : Int32))])) (fun _ q => XS.ifNo X21.here hx rfl (hb hby at_176) rfl ((if0 _ _).trans (teq (by rw [hr20]; decide)).2) (XS.iconst X21.here hx rfl (hb hby at_179) (XS.goto X21.here hx rfl (pc0 := 180) (pc' := 184) rfl (hb hby at_180) (by decide) (by decide) (q)))) ?_
            exact own_goWN X21 hh w16 hEL e21 hlk hx (t := .boolean) (by simp) Bd.returns (hb hby at_184) ⟨rfl, N11⟩ (by decide) (by decide)
          · -- not: r17 = (0 : Int32)
            refine own_stW (g' := (mkF m 161 #[.val (.int p0), .val (.int p1), .val (.int p2), .val (.int p3), .val (.ref a2), .val (.int z3), .val (.int z4), .val (.int (p1 &&& (15 : Int32))), .val (.int (p1 &&& (15 : Int32))), .val (.int ((p3 &&& (255 : Int32)).toUInt32.toUInt16.toUInt32.toInt32)), .val (.int ((((p3.toUInt32 >>> ((8 : Int32) &&& 31).toUInt32).toInt32) &&& (255 : Int32)).toUInt32.toUInt16.toUInt32.toInt32)), .val (.ref x9), .val (.ref x11), .val .null] [])) (fun _ q => XS.ifNo X17.here hx rfl (hb hby at_158) rfl ((if0 _ _).trans (feq hc18).1) (q)) ?_
            obtain ⟨T22, X22, e22, st22⟩ := getS2 X17 hx w16.2.1 w16.2.2.1 (host := "") (Or.inl (hw _ (List.mem_of_getElem? (i := 132) rfl))) Via.refl e17 (OF_.ext (((((X00.ext E2).keep K9 all0).keep K11 all0).ext E13).ext E16).2) (g := (mkF m 161 #[.val (.int p0), .val (.int p1), .val (.int p2), .val (.int p3), .val (.ref a2), .val (.int z3), .val (.int z4), .val (.int (p1 &&& (15 : Int32))), .val (.int (p1 &&& (15 : Int32))), .val (.int ((p3 &&& (255 : Int32)).toUInt32.toUInt16.toUInt32.toInt32)), .val (.int ((((p3.toUInt32 >>> ((8 : Int32) &&& 31).toUInt32).toInt32) &&& (255 : Int32)).toUInt32.toUInt16.toUInt32.toInt32)), .val (.ref x9), .val (.ref x11), .val .null] [])) rfl (hb hby at_161)
            refine own_stW (g' := (mkF m 164 #[.val (.int p0), .val (.int p1), .val (.int p2), .val (.int p3), .val (.ref a2), .val (.int z3), .val (.int z4), .val (.int (p1 &&& (15 : Int32))), .val (.int (p1 &&& (15 : Int32))), .val (.int ((p3 &&& (255 : Int32)).toUInt32.toUInt16.toUInt32.toInt32)), .val (.int ((((p3.toUInt32 >>> ((8 : Int32) &&& 31).toUInt32).toInt32) &&& (255 : Int32)).toUInt32.toUInt16.toUInt32.toInt32)), .val (.ref x9), .val (.ref x11), .val .null] [(.ref aF)])) st22 ?_
            refine own_stW (g' := (mkF m 187 #[.val (.int p0), .val (.int p1), .val (.int p2), .val (.int p3), .val (.ref a2), .val (.int z3), .val (.int z4), .val (.int (p1 &&& (15 : Int32))), .val (.int (p1 &&& (15 : Int32))), .val (.int ((p3 &&& (255 : Int32)).toUInt32.toUInt16.toUInt32.toInt32)), .val (.int ((((p3.toUInt32 >>> ((8 : Int32) &&& 31).toUInt32).toInt32) &&& (255 : Int32)).toUInt32.toUInt16.toUInt32.toInt32)), .val (.ref x9), .val (.ref x11), .val (.ref aF)] [(.ref x11)])) (fun _ q => XS.astore X22.here hx rfl (hb hby at_164) rfl rfl (l' := #[.val (.int p0), .val (.int p1), .val (.int p2), .val (.int p3), .val (.ref a2), .val (.int z3), .val (.int z4), .val (.int (p1 &&& (15 : Int32))), .val (.int (p1 &&& (15 : Int32))), .val (.int ((p3 &&& (255 : Int32)).toUInt32.toUInt16.toUInt32.toInt32)), .val (.int ((((p3.toUInt32 >>> ((8 : Int32) &&& 31).toUInt32).toInt32) &&& (255 : Int32)).toUInt32.toUInt16.toUInt32.toInt32)), .val (.ref x9), .val (.ref x11), .val (.ref aF)]) rfl (XS.aload X22.here hx rfl (hb hby at_166) rfl rfl (XS.ifnonnullYes X22.here hx rfl (pc0 := 168) (pc' := 185) rfl (hb hby at_168) rfl (by decide) (by decide) (XS.aload X22.here hx rfl (hb hby at_185) rfl rfl (q))))) ?_
            have Fo23 : Fld Z h16 x11 "java/util/Optional" "value" "Ljava/lang/Object;" (.ref aF) := by have F := ((F11.ext E13).ext E16); rw [if_neg (fun q => own_r0 hr14 hc15 q.symm), if_pos (own_r1 hr17 hc18).symm] at F; exact F
            obtain ⟨r24, hr24⟩ : ∃ z : Int32, z = own_f_isp1 := ⟨_, rfl⟩
            have K24 : own_Bk l room_1 p e below (s.setVm T16.vm) #[(.int p0), (.int p1), (.int p2), (.int p3)] (⟨"java/util/Optional", "isPresent", "()Z"⟩ : MethodName) 0 h16 #[(.ref x11)] 0 0 (fun v h L => v = some (.int r24) ∧ L = [] ∧ h = h16) := backOf (s := (s.setVm T16.vm)) (R := room_1) (W := 0) (Q := (fun v h L => v = some (.int r24) ∧ L = [] ∧ h = h16)) (rm := ({ frames := 0, cells := 0, slots := 0, locals := 0 } : Room)) (own_rm_isp1 l Z a0 hw [] x11 aF r24 h16 Fo23 (by rw [hr24])) w16.2.1 (hw _ (List.mem_of_getElem? (i := 115) rfl)) (hw _ (List.mem_of_getElem? (i := 106) rfl)) (by decide) (by decide)
            obtain ⟨T25, X25, e25, st25⟩ := own_pure (own_cV X22 hx w16.2.1 w16.2.2.1 (hw _ (List.mem_of_getElem? (i := 111) rfl)) (hw _ (List.mem_of_getElem? (i := 112) rfl)) (notFace_of_selects (args := #[]) (mvT w16.2.1 (hw _ (List.mem_of_getElem? (i := 114) rfl)))) (hw _ (List.mem_of_getElem? (i := 114) rfl)) (hw _ (List.mem_of_getElem? (i := 113) rfl)) (by decide) e22 (h := h16) (b := x11) ((E11.ext E13).ext E16) (argsL := []) (rest := []) K24 (pc := 187) (Ls := #[.val (.int p0), .val (.int p1), .val (.int p2), .val (.int p3), .val (.ref a2), .val (.int z3), .val (.int z4), .val (.int (p1 &&& (15 : Int32))), .val (.int (p1 &&& (15 : Int32))), .val (.int ((p3 &&& (255 : Int32)).toUInt32.toUInt16.toUInt32.toInt32)), .val (.int ((((p3.toUInt32 >>> ((8 : Int32) &&& 31).toUInt32).toInt32) &&& (255 : Int32)).toUInt32.toUInt16.toUInt32.toInt32)), .val (.ref x9), .val (.ref x11), .val (.ref aF)]) (by rw [hml]; rfl) (lenOf own_pd13 rfl) rfl (Nat.le_of_eq rfl) (hb hby at_187) (by decide) (by decide))
            refine own_stW (g' := (mkF m 190 #[.val (.int p0), .val (.int p1), .val (.int p2), .val (.int p3), .val (.ref a2), .val (.int z3), .val (.int z4), .val (.int (p1 &&& (15 : Int32))), .val (.int (p1 &&& (15 : Int32))), .val (.int ((p3 &&& (255 : Int32)).toUInt32.toUInt16.toUInt32.toInt32)), .val (.int ((((p3.toUInt32 >>> ((8 : Int32) &&& 31).toUInt32).toInt32) &&& (255 : Int32)).toUInt32.toUInt16.toUInt32.toInt32)), .val (.ref x9), .val (.ref x11), .val (.ref aF)] [(.int r24)])) st25 ?_
            refine own_stW (g' := (mkF m 195 #[.val (.int p0), .val (.int p1), .val (.int p2), .val (.int p3), .val (.ref a2), .val (.int z3), .val (.int z4), .val (.int (p1 &&& (15 : Int32))), .val (.int (p1 &&& (15 : Int32))), .val (.int ((p3 &&& (255 : Int32)).toUInt32.toUInt16.toUInt32.toInt32)), .val (.int ((((p3.toUInt32 >>> ((8 : Int32) &&& 31).toUInt32).toInt32) &&& (255 : Int32)).toUInt32.toUInt16.toUInt32.toInt32)), .val (.ref x9), .val (.ref x11), .val (.ref aF)] [(.ref x11)])) (fun _ q => XS.ifNo X25.here hx rfl (hb hby at_190) rfl ((if0 _ _).trans (feq (by rw [hr24]; decide)).1) (XS.aload X25.here hx rfl (hb hby at_193) rfl rfl (q))) ?_
            have Fo26 : Fld Z h16 x11 "java/util/Optional" "value" "Ljava/lang/Object;" (.ref aF) := by have F := ((F11.ext E13).ext E16); rw [if_neg (fun q => own_r0 hr14 hc15 q.symm), if_pos (own_r1 hr17 hc18).symm] at F; exact F
            have K27 : own_Bk l room_1 p e below (s.setVm T16.vm) #[(.int p0), (.int p1), (.int p2), (.int p3)] (⟨"java/util/Optional", "get", "()Ljava/lang/Object;"⟩ : MethodName) 0 h16 #[(.ref x11)] 0 0 (fun v h L => v = some (.ref aF) ∧ L = [] ∧ h = h16) := backOf (s := (s.setVm T16.vm)) (R := room_1) (W := 0) (Q := (fun v h L => v = some (.ref aF) ∧ L = [] ∧ h = h16)) (rm := ({ frames := 0, cells := 0, slots := 0, locals := 0 } : Room)) (own_rm_get l Z a0 hw [] x11 aF  h16 Fo26 ) w16.2.1 (hw _ (List.mem_of_getElem? (i := 137) rfl)) (hw _ (List.mem_of_getElem? (i := 106) rfl)) (by decide) (by decide)
            obtain ⟨T28, X28, e28, st28⟩ := own_pure (own_cV X25 hx w16.2.1 w16.2.2.1 (hw _ (List.mem_of_getElem? (i := 133) rfl)) (hw _ (List.mem_of_getElem? (i := 134) rfl)) (notFace_of_selects (args := #[]) (mvT w16.2.1 (hw _ (List.mem_of_getElem? (i := 136) rfl)))) (hw _ (List.mem_of_getElem? (i := 136) rfl)) (hw _ (List.mem_of_getElem? (i := 135) rfl)) (by decide) e25 (h := h16) (b := x11) ((E11.ext E13).ext E16) (argsL := []) (rest := []) K27 (pc := 195) (Ls := #[.val (.int p0), .val (.int p1), .val (.int p2), .val (.int p3), .val (.ref a2), .val (.int z3), .val (.int z4), .val (.int (p1 &&& (15 : Int32))), .val (.int (p1 &&& (15 : Int32))), .val (.int ((p3 &&& (255 : Int32)).toUInt32.toUInt16.toUInt32.toInt32)), .val (.int ((((p3.toUInt32 >>> ((8 : Int32) &&& 31).toUInt32).toInt32) &&& (255 : Int32)).toUInt32.toUInt16.toUInt32.toInt32)), .val (.ref x9), .val (.ref x11), .val (.ref aF)]) (by rw [hml]; rfl) (lenOf own_pd14 rfl) rfl (Nat.le_of_eq rfl) (hb hby at_195) (by decide) (by decide))
            refine own_stW (g' := (mkF m 198 #[.val (.int p0), .val (.int p1), .val (.int p2), .val (.int p3), .val (.ref a2), .val (.int z3), .val (.int z4), .val (.int (p1 &&& (15 : Int32))), .val (.int (p1 &&& (15 : Int32))), .val (.int ((p3 &&& (255 : Int32)).toUInt32.toUInt16.toUInt32.toInt32)), .val (.int ((((p3.toUInt32 >>> ((8 : Int32) &&& 31).toUInt32).toInt32) &&& (255 : Int32)).toUInt32.toUInt16.toUInt32.toInt32)), .val (.ref x9), .val (.ref x11), .val (.ref aF)] [(.ref aF)])) st28 ?_
            refine own_stW (g' := (mkF m 200 #[.val (.int p0), .val (.int p1), .val (.int p2), .val (.int p3), .val (.ref a2), .val (.int z3), .val (.int z4), .val (.int (p1 &&& (15 : Int32))), .val (.int (p1 &&& (15 : Int32))), .val (.int ((p3 &&& (255 : Int32)).toUInt32.toUInt16.toUInt32.toInt32)), .val (.int ((((p3.toUInt32 >>> ((8 : Int32) &&& 31).toUInt32).toInt32) &&& (255 : Int32)).toUInt32.toUInt16.toUInt32.toInt32)), .val (.ref x9), .val (.ref x11), .val (.ref aF)] [(.ref aF), (.ref aF)])) (fun _ q => XS.aload X28.here hx rfl (hb hby at_198) rfl rfl (q)) ?_
            refine own_stW (g' := (mkF m 205 #[.val (.int p0), .val (.int p1), .val (.int p2), .val (.int p3), .val (.ref a2), .val (.int z3), .val (.int z4), .val (.int (p1 &&& (15 : Int32))), .val (.int (p1 &&& (15 : Int32))), .val (.int ((p3 &&& (255 : Int32)).toUInt32.toUInt16.toUInt32.toInt32)), .val (.int ((((p3.toUInt32 >>> ((8 : Int32) &&& 31).toUInt32).toInt32) &&& (255 : Int32)).toUInt32.toUInt16.toUInt32.toInt32)), .val (.ref x9), .val (.ref x11), .val (.ref aF)] [(.ref aF)])) (fun _ q => Jvm.RoadKit.acmp (g := (mkF m 200 #[.val (.int p0), .val (.int p1), .val (.int p2), .val (.int p3), .val (.ref a2), .val (.int z3), .val (.int z4), .val (.int (p1 &&& (15 : Int32))), .val (.int (p1 &&& (15 : Int32))), .val (.int ((p3 &&& (255 : Int32)).toUInt32.toUInt16.toUInt32.toInt32)), .val (.int ((((p3.toUInt32 >>> ((8 : Int32) &&& 31).toUInt32).toInt32) &&& (255 : Int32)).toUInt32.toUInt16.toUInt32.toInt32)), .val (.ref x9), .val (.ref x11), .val (.ref aF)] [(.ref aF), (.ref aF)])) X28 hx rfl rfl rfl (pc0 := 200) (pc' := 203) (same := true) rfl (hb hby at_200) rfl (decide_eq_true rfl) (by decide) (by decide) (XS.aload X28.here hx rfl (hb hby at_203) rfl rfl (q))) ?_
            have K29 : own_Bk l room_1 p e below (s.setVm T16.vm) #[(.int p0), (.int p1), (.int p2), (.int p3)] (⟨"org/proofstand/runner/VmMode", "word", "()Ljava/lang/String;"⟩ : MethodName) 0 h16 #[(.ref aF)] 0 0 (fun v h L => v = some (.ref wF) ∧ L = [] ∧ h = h16) := backOf (s := (s.setVm T16.vm)) (R := room_1) (W := 0) (Q := (fun v h L => v = some (.ref wF) ∧ L = [] ∧ h = h16)) (rm := ({ frames := 0, cells := 0, slots := 0, locals := 0 } : Room)) (own_rm_word l Z a0 hw [] aF wF  h16 (MF.ext (((((X00.ext E2).keep K9 all0).keep K11 all0).ext E13).ext E16).2) ) w16.2.1 (hw _ (List.mem_of_getElem? (i := 142) rfl)) (hw _ (List.mem_of_getElem? (i := 74) rfl)) (by decide) (by decide)
            obtain ⟨T30, X30, e30, st30⟩ := own_pure (own_cV X28 hx w16.2.1 w16.2.2.1 (hw _ (List.mem_of_getElem? (i := 138) rfl)) (hw _ (List.mem_of_getElem? (i := 139) rfl)) (notFace_of_selects (args := #[]) (mvT w16.2.1 (hw _ (List.mem_of_getElem? (i := 141) rfl)))) (hw _ (List.mem_of_getElem? (i := 141) rfl)) (hw _ (List.mem_of_getElem? (i := 140) rfl)) (by decide) e28 (h := h16) (b := aF) (EMF.ext (((((X00.ext E2).keep K9 all0).keep K11 all0).ext E13).ext E16).2) (argsL := []) (rest := []) K29 (pc := 205) (Ls := #[.val (.int p0), .val (.int p1), .val (.int p2), .val (.int p3), .val (.ref a2), .val (.int z3), .val (.int z4), .val (.int (p1 &&& (15 : Int32))), .val (.int (p1 &&& (15 : Int32))), .val (.int ((p3 &&& (255 : Int32)).toUInt32.toUInt16.toUInt32.toInt32)), .val (.int ((((p3.toUInt32 >>> ((8 : Int32) &&& 31).toUInt32).toInt32) &&& (255 : Int32)).toUInt32.toUInt16.toUInt32.toInt32)), .val (.ref x9), .val (.ref x11), .val (.ref aF)]) (by rw [hml]; rfl) (lenOf own_pd15 rfl) rfl (Nat.le_of_eq rfl) (hb hby at_205) (by decide) (by decide))
            refine own_stW (g' := (mkF m 208 #[.val (.int p0), .val (.int p1), .val (.int p2), .val (.int p3), .val (.ref a2), .val (.int z3), .val (.int z4), .val (.int (p1 &&& (15 : Int32))), .val (.int (p1 &&& (15 : Int32))), .val (.int ((p3 &&& (255 : Int32)).toUInt32.toUInt16.toUInt32.toInt32)), .val (.int ((((p3.toUInt32 >>> ((8 : Int32) &&& 31).toUInt32).toInt32) &&& (255 : Int32)).toUInt32.toUInt16.toUInt32.toInt32)), .val (.ref x9), .val (.ref x11), .val (.ref aF)] [(.ref wF)])) st30 ?_
            refine own_stW (g' := (mkF m 210 #[.val (.int p0), .val (.int p1), .val (.int p2), .val (.int p3), .val (.ref a2), .val (.int z3), .val (.int z4), .val (.int (p1 &&& (15 : Int32))), .val (.int (p1 &&& (15 : Int32))), .val (.int ((p3 &&& (255 : Int32)).toUInt32.toUInt16.toUInt32.toInt32)), .val (.int ((((p3.toUInt32 >>> ((8 : Int32) &&& 31).toUInt32).toInt32) &&& (255 : Int32)).toUInt32.toUInt16.toUInt32.toInt32)), .val (.ref x9), .val (.ref x11), .val (.ref aF)] [(.ref x9), (.ref wF)])) (fun _ q => XS.aload X30.here hx rfl (hb hby at_208) rfl rfl (q)) ?_
            have K31 : own_Bk l room_1 p e below (s.setVm T16.vm) #[(.int p0), (.int p1), (.int p2), (.int p3)] (⟨"java/lang/String", "equals", "(Ljava/lang/Object;)Z"⟩ : MethodName) 0 h16 #[(.ref wF), (.ref x9)] 0 0 (fun v h L => ((v = some (.int 1) ∧ own_fresh = cs9) ∨ (v = some (.int 0) ∧ ¬ own_fresh = cs9)) ∧ L = [] ∧ h = h16) := StrChars.Road.eqW (s := (s.setVm T16.vm)) (W := 0) w16.2.1 (own_heq hw) (kI := 4) (hw _ (List.mem_of_getElem? (i := 2) rfl)) (EF.ext (((((X00.ext E2).keep K9 all0).keep K11 all0).ext E13).ext E16).2) (FF.ext (((((X00.ext E2).keep K9 all0).keep K11 all0).ext E13).ext E16).2) (CF.ext (((((X00.ext E2).keep K9 all0).keep K11 all0).ext E13).ext E16).2) (KF.ext (((((X00.ext E2).keep K9 all0).keep K11 all0).ext E13).ext E16).2) own_codF own_hbF (by decide) (((E9.keep K11).ext E13).ext E16) (((F9.keep K11 nin0).ext E13).ext E16) (((Cd9.keep K11 nin0).ext E13).ext E16) (((A9.keep K11 nin0).ext E13).ext E16) cod9 hb9 l29 (O.ext (((((X00.ext E2).keep K9 all0).keep K11 all0).ext E13).ext E16).2) hz (by decide) (by decide)
            obtain ⟨v31, T31, hv31, X31, e31, st31⟩ := own_pureE (A := fun v => ((v = some (.int 1) ∧ own_fresh = cs9) ∨ (v = some (.int 0) ∧ ¬ own_fresh = cs9))) (own_cV X30 hx w16.2.1 w16.2.2.1 (hw _ (List.mem_of_getElem? (i := 109) rfl)) (hw _ (List.mem_of_getElem? (i := 96) rfl)) (notFace_of_selects (args := #[]) (mvT w16.2.1 (hw _ (List.mem_of_getElem? (i := 98) rfl)))) (hw _ (List.mem_of_getElem? (i := 98) rfl)) (hw _ (List.mem_of_getElem? (i := 97) rfl)) (by decide) e30 (h := h16) (b := wF) (EF.ext (((((X00.ext E2).keep K9 all0).keep K11 all0).ext E13).ext E16).2) (argsL := [(.ref x9)]) (rest := []) K31 (pc := 210) (Ls := #[.val (.int p0), .val (.int p1), .val (.int p2), .val (.int p3), .val (.ref a2), .val (.int z3), .val (.int z4), .val (.int (p1 &&& (15 : Int32))), .val (.int (p1 &&& (15 : Int32))), .val (.int ((p3 &&& (255 : Int32)).toUInt32.toUInt16.toUInt32.toInt32)), .val (.int ((((p3.toUInt32 >>> ((8 : Int32) &&& 31).toUInt32).toInt32) &&& (255 : Int32)).toUInt32.toUInt16.toUInt32.toInt32)), .val (.ref x9), .val (.ref x11), .val (.ref aF)]) (by rw [hml]; rfl) (lenOf own_pd8 rfl) rfl (Nat.le_of_eq rfl) (hb hby at_210) (by decide) (by decide))
            obtain ⟨r31, hr31, rfl⟩ := own_eq01 hv31
            refine own_stW (g' := (mkF m 213 #[.val (.int p0), .val (.int p1), .val (.int p2), .val (.int p3), .val (.ref a2), .val (.int z3), .val (.int z4), .val (.int (p1 &&& (15 : Int32))), .val (.int (p1 &&& (15 : Int32))), .val (.int ((p3 &&& (255 : Int32)).toUInt32.toUInt16.toUInt32.toInt32)), .val (.int ((((p3.toUInt32 >>> ((8 : Int32) &&& 31).toUInt32).toInt32) &&& (255 : Int32)).toUInt32.toUInt16.toUInt32.toInt32)), .val (.ref x9), .val (.ref x11), .val (.ref aF)] [(.int r31)])) st31 ?_
            refine own_stW (g' := (mkF m 221 #[.val (.int p0), .val (.int p1), .val (.int p2), .val (.int p3), .val (.ref a2), .val (.int z3), .val (.int z4), .val (.int (p1 &&& (15 : Int32))), .val (.int (p1 &&& (15 : Int32))), .val (.int ((p3 &&& (255 : Int32)).toUInt32.toUInt16.toUInt32.toInt32)), .val (.int ((((p3.toUInt32 >>> ((8 : Int32) &&& 31).toUInt32).toInt32) &&& (255 : Int32)).toUInt32.toUInt16.toUInt32.toInt32)), .val (.ref x9), .val (.ref x11), .val (.ref aF)] [(.int (1 : Int32))])) (fun _ q => XS.ifNo X31.here hx rfl (hb hby at_213) rfl ((if0 _ _).trans (feq (fun q => own_r0 hr31 q (own_r1 hr17 hc18).symm)).1) (XS.iconst X31.here hx rfl (hb hby at_216) (XS.goto X31.here hx rfl (pc0 := 217) (pc' := 221) rfl (hb hby at_217) (by decide) (by decide) (q)))) ?_
            exact own_goWN X31 hh w16 hEL e31 hlk hx (t := .boolean) (by simp) Bd.returns (hb hby at_221) ⟨rfl, N11⟩ (by decide) (by decide)
        · -- not: r14 = (0 : Int32)
          refine own_stW (g' := (mkF m 143 #[.val (.int p0), .val (.int p1), .val (.int p2), .val (.int p3), .val (.ref a2), .val (.int z3), .val (.int z4), .val (.int (p1 &&& (15 : Int32))), .val (.int (p1 &&& (15 : Int32))), .val (.int ((p3 &&& (255 : Int32)).toUInt32.toUInt16.toUInt32.toInt32)), .val (.int ((((p3.toUInt32 >>> ((8 : Int32) &&& 31).toUInt32).toInt32) &&& (255 : Int32)).toUInt32.toUInt16.toUInt32.toInt32)), .val (.ref x9), .val (.ref x11), .val .null] [])) (fun _ q => XS.ifNo X14.here hx rfl (hb hby at_140) rfl ((if0 _ _).trans (feq hc15).1) (q)) ?_
          obtain ⟨T32, X32, e32, st32⟩ := getS2 X14 hx w13.2.1 w13.2.2.1 (host := "") (Or.inl (hw _ (List.mem_of_getElem? (i := 143) rfl))) Via.refl e14 (OS.ext ((((X00.ext E2).keep K9 all0).keep K11 all0).ext E13).2) (g := (mkF m 143 #[.val (.int p0), .val (.int p1), .val (.int p2), .val (.int p3), .val (.ref a2), .val (.int z3), .val (.int z4), .val (.int (p1 &&& (15 : Int32))), .val (.int (p1 &&& (15 : Int32))), .val (.int ((p3 &&& (255 : Int32)).toUInt32.toUInt16.toUInt32.toInt32)), .val (.int ((((p3.toUInt32 >>> ((8 : Int32) &&& 31).toUInt32).toInt32) &&& (255 : Int32)).toUInt32.toUInt16.toUInt32.toInt32)), .val (.ref x9), .val (.ref x11), .val .null] [])) rfl (hb hby at_143)
          refine own_stW (g' := (mkF m 146 #[.val (.int p0), .val (.int p1), .val (.int p2), .val (.int p3), .val (.ref a2), .val (.int z3), .val (.int z4), .val (.int (p1 &&& (15 : Int32))), .val (.int (p1 &&& (15 : Int32))), .val (.int ((p3 &&& (255 : Int32)).toUInt32.toUInt16.toUInt32.toInt32)), .val (.int ((((p3.toUInt32 >>> ((8 : Int32) &&& 31).toUInt32).toInt32) &&& (255 : Int32)).toUInt32.toUInt16.toUInt32.toInt32)), .val (.ref x9), .val (.ref x11), .val .null] [(.ref aS)])) st32 ?_
          refine own_stW (g' := (mkF m 187 #[.val (.int p0), .val (.int p1), .val (.int p2), .val (.int p3), .val (.ref a2), .val (.int z3), .val (.int z4), .val (.int (p1 &&& (15 : Int32))), .val (.int (p1 &&& (15 : Int32))), .val (.int ((p3 &&& (255 : Int32)).toUInt32.toUInt16.toUInt32.toInt32)), .val (.int ((((p3.toUInt32 >>> ((8 : Int32) &&& 31).toUInt32).toInt32) &&& (255 : Int32)).toUInt32.toUInt16.toUInt32.toInt32)), .val (.ref x9), .val (.ref x11), .val (.ref aS)] [(.ref x11)])) (fun _ q => XS.astore X32.here hx rfl (hb hby at_146) rfl rfl (l' := #[.val (.int p0), .val (.int p1), .val (.int p2), .val (.int p3), .val (.ref a2), .val (.int z3), .val (.int z4), .val (.int (p1 &&& (15 : Int32))), .val (.int (p1 &&& (15 : Int32))), .val (.int ((p3 &&& (255 : Int32)).toUInt32.toUInt16.toUInt32.toInt32)), .val (.int ((((p3.toUInt32 >>> ((8 : Int32) &&& 31).toUInt32).toInt32) &&& (255 : Int32)).toUInt32.toUInt16.toUInt32.toInt32)), .val (.ref x9), .val (.ref x11), .val (.ref aS)]) rfl (XS.goto X32.here hx rfl (pc0 := 148) (pc' := 166) rfl (hb hby at_148) (by decide) (by decide) (XS.aload X32.here hx rfl (hb hby at_166) rfl rfl (XS.ifnonnullYes X32.here hx rfl (pc0 := 168) (pc' := 185) rfl (hb hby at_168) rfl (by decide) (by decide) (XS.aload X32.here hx rfl (hb hby at_185) rfl rfl (q)))))) ?_
          have Fo33 : Fld Z h13 x11 "java/util/Optional" "value" "Ljava/lang/Object;" (.ref aS) := by have F := (F11.ext E13); rw [if_pos (own_r1 hr14 hc15).symm] at F; exact F
          obtain ⟨r34, hr34⟩ : ∃ z : Int32, z = own_f_isp1 := ⟨_, rfl⟩
          have K34 : own_Bk l room_1 p e below (s.setVm T13.vm) #[(.int p0), (.int p1), (.int p2), (.int p3)] (⟨"java/util/Optional", "isPresent", "()Z"⟩ : MethodName) 0 h13 #[(.ref x11)] 0 0 (fun v h L => v = some (.int r34) ∧ L = [] ∧ h = h13) := backOf (s := (s.setVm T13.vm)) (R := room_1) (W := 0) (Q := (fun v h L => v = some (.int r34) ∧ L = [] ∧ h = h13)) (rm := ({ frames := 0, cells := 0, slots := 0, locals := 0 } : Room)) (own_rm_isp1 l Z a0 hw [] x11 aS r34 h13 Fo33 (by rw [hr34])) w13.2.1 (hw _ (List.mem_of_getElem? (i := 115) rfl)) (hw _ (List.mem_of_getElem? (i := 106) rfl)) (by decide) (by decide)
          obtain ⟨T35, X35, e35, st35⟩ := own_pure (own_cV X32 hx w13.2.1 w13.2.2.1 (hw _ (List.mem_of_getElem? (i := 111) rfl)) (hw _ (List.mem_of_getElem? (i := 112) rfl)) (notFace_of_selects (args := #[]) (mvT w13.2.1 (hw _ (List.mem_of_getElem? (i := 114) rfl)))) (hw _ (List.mem_of_getElem? (i := 114) rfl)) (hw _ (List.mem_of_getElem? (i := 113) rfl)) (by decide) e32 (h := h13) (b := x11) (E11.ext E13) (argsL := []) (rest := []) K34 (pc := 187) (Ls := #[.val (.int p0), .val (.int p1), .val (.int p2), .val (.int p3), .val (.ref a2), .val (.int z3), .val (.int z4), .val (.int (p1 &&& (15 : Int32))), .val (.int (p1 &&& (15 : Int32))), .val (.int ((p3 &&& (255 : Int32)).toUInt32.toUInt16.toUInt32.toInt32)), .val (.int ((((p3.toUInt32 >>> ((8 : Int32) &&& 31).toUInt32).toInt32) &&& (255 : Int32)).toUInt32.toUInt16.toUInt32.toInt32)), .val (.ref x9), .val (.ref x11), .val (.ref aS)]) (by rw [hml]; rfl) (lenOf own_pd13 rfl) rfl (Nat.le_of_eq rfl) (hb hby at_187) (by decide) (by decide))
          refine own_stW (g' := (mkF m 190 #[.val (.int p0), .val (.int p1), .val (.int p2), .val (.int p3), .val (.ref a2), .val (.int z3), .val (.int z4), .val (.int (p1 &&& (15 : Int32))), .val (.int (p1 &&& (15 : Int32))), .val (.int ((p3 &&& (255 : Int32)).toUInt32.toUInt16.toUInt32.toInt32)), .val (.int ((((p3.toUInt32 >>> ((8 : Int32) &&& 31).toUInt32).toInt32) &&& (255 : Int32)).toUInt32.toUInt16.toUInt32.toInt32)), .val (.ref x9), .val (.ref x11), .val (.ref aS)] [(.int r34)])) st35 ?_
          refine own_stW (g' := (mkF m 195 #[.val (.int p0), .val (.int p1), .val (.int p2), .val (.int p3), .val (.ref a2), .val (.int z3), .val (.int z4), .val (.int (p1 &&& (15 : Int32))), .val (.int (p1 &&& (15 : Int32))), .val (.int ((p3 &&& (255 : Int32)).toUInt32.toUInt16.toUInt32.toInt32)), .val (.int ((((p3.toUInt32 >>> ((8 : Int32) &&& 31).toUInt32).toInt32) &&& (255 : Int32)).toUInt32.toUInt16.toUInt32.toInt32)), .val (.ref x9), .val (.ref x11), .val (.ref aS)] [(.ref x11)])) (fun _ q => XS.ifNo X35.here hx rfl (hb hby at_190) rfl ((if0 _ _).trans (feq (by rw [hr34]; decide)).1) (XS.aload X35.here hx rfl (hb hby at_193) rfl rfl (q))) ?_
          have Fo36 : Fld Z h13 x11 "java/util/Optional" "value" "Ljava/lang/Object;" (.ref aS) := by have F := (F11.ext E13); rw [if_pos (own_r1 hr14 hc15).symm] at F; exact F
          have K37 : own_Bk l room_1 p e below (s.setVm T13.vm) #[(.int p0), (.int p1), (.int p2), (.int p3)] (⟨"java/util/Optional", "get", "()Ljava/lang/Object;"⟩ : MethodName) 0 h13 #[(.ref x11)] 0 0 (fun v h L => v = some (.ref aS) ∧ L = [] ∧ h = h13) := backOf (s := (s.setVm T13.vm)) (R := room_1) (W := 0) (Q := (fun v h L => v = some (.ref aS) ∧ L = [] ∧ h = h13)) (rm := ({ frames := 0, cells := 0, slots := 0, locals := 0 } : Room)) (own_rm_get l Z a0 hw [] x11 aS  h13 Fo36 ) w13.2.1 (hw _ (List.mem_of_getElem? (i := 137) rfl)) (hw _ (List.mem_of_getElem? (i := 106) rfl)) (by decide) (by decide)
          obtain ⟨T38, X38, e38, st38⟩ := own_pure (own_cV X35 hx w13.2.1 w13.2.2.1 (hw _ (List.mem_of_getElem? (i := 133) rfl)) (hw _ (List.mem_of_getElem? (i := 134) rfl)) (notFace_of_selects (args := #[]) (mvT w13.2.1 (hw _ (List.mem_of_getElem? (i := 136) rfl)))) (hw _ (List.mem_of_getElem? (i := 136) rfl)) (hw _ (List.mem_of_getElem? (i := 135) rfl)) (by decide) e35 (h := h13) (b := x11) (E11.ext E13) (argsL := []) (rest := []) K37 (pc := 195) (Ls := #[.val (.int p0), .val (.int p1), .val (.int p2), .val (.int p3), .val (.ref a2), .val (.int z3), .val (.int z4), .val (.int (p1 &&& (15 : Int32))), .val (.int (p1 &&& (15 : Int32))), .val (.int ((p3 &&& (255 : Int32)).toUInt32.toUInt16.toUInt32.toInt32)), .val (.int ((((p3.toUInt32 >>> ((8 : Int32) &&& 31).toUInt32).toInt32) &&& (255 : Int32)).toUInt32.toUInt16.toUInt32.toInt32)), .val (.ref x9), .val (.ref x11), .val (.ref aS)]) (by rw [hml]; rfl) (lenOf own_pd14 rfl) rfl (Nat.le_of_eq rfl) (hb hby at_195) (by decide) (by decide))
          refine own_stW (g' := (mkF m 198 #[.val (.int p0), .val (.int p1), .val (.int p2), .val (.int p3), .val (.ref a2), .val (.int z3), .val (.int z4), .val (.int (p1 &&& (15 : Int32))), .val (.int (p1 &&& (15 : Int32))), .val (.int ((p3 &&& (255 : Int32)).toUInt32.toUInt16.toUInt32.toInt32)), .val (.int ((((p3.toUInt32 >>> ((8 : Int32) &&& 31).toUInt32).toInt32) &&& (255 : Int32)).toUInt32.toUInt16.toUInt32.toInt32)), .val (.ref x9), .val (.ref x11), .val (.ref aS)] [(.ref aS)])) st38 ?_
          refine own_stW (g' := (mkF m 200 #[.val (.int p0), .val (.int p1), .val (.int p2), .val (.int p3), .val (.ref a2), .val (.int z3), .val (.int z4), .val (.int (p1 &&& (15 : Int32))), .val (.int (p1 &&& (15 : Int32))), .val (.int ((p3 &&& (255 : Int32)).toUInt32.toUInt16.toUInt32.toInt32)), .val (.int ((((p3.toUInt32 >>> ((8 : Int32) &&& 31).toUInt32).toInt32) &&& (255 : Int32)).toUInt32.toUInt16.toUInt32.toInt32)), .val (.ref x9), .val (.ref x11), .val (.ref aS)] [(.ref aS), (.ref aS)])) (fun _ q => XS.aload X38.here hx rfl (hb hby at_198) rfl rfl (q)) ?_
          refine own_stW (g' := (mkF m 205 #[.val (.int p0), .val (.int p1), .val (.int p2), .val (.int p3), .val (.ref a2), .val (.int z3), .val (.int z4), .val (.int (p1 &&& (15 : Int32))), .val (.int (p1 &&& (15 : Int32))), .val (.int ((p3 &&& (255 : Int32)).toUInt32.toUInt16.toUInt32.toInt32)), .val (.int ((((p3.toUInt32 >>> ((8 : Int32) &&& 31).toUInt32).toInt32) &&& (255 : Int32)).toUInt32.toUInt16.toUInt32.toInt32)), .val (.ref x9), .val (.ref x11), .val (.ref aS)] [(.ref aS)])) (fun _ q => Jvm.RoadKit.acmp (g := (mkF m 200 #[.val (.int p0), .val (.int p1), .val (.int p2), .val (.int p3), .val (.ref a2), .val (.int z3), .val (.int z4), .val (.int (p1 &&& (15 : Int32))), .val (.int (p1 &&& (15 : Int32))), .val (.int ((p3 &&& (255 : Int32)).toUInt32.toUInt16.toUInt32.toInt32)), .val (.int ((((p3.toUInt32 >>> ((8 : Int32) &&& 31).toUInt32).toInt32) &&& (255 : Int32)).toUInt32.toUInt16.toUInt32.toInt32)), .val (.ref x9), .val (.ref x11), .val (.ref aS)] [(.ref aS), (.ref aS)])) X38 hx rfl rfl rfl (pc0 := 200) (pc' := 203) (same := true) rfl (hb hby at_200) rfl (decide_eq_true rfl) (by decide) (by decide) (XS.aload X38.here hx rfl (hb hby at_203) rfl rfl (q))) ?_
          have K39 : own_Bk l room_1 p e below (s.setVm T13.vm) #[(.int p0), (.int p1), (.int p2), (.int p3)] (⟨"org/proofstand/runner/VmMode", "word", "()Ljava/lang/String;"⟩ : MethodName) 0 h13 #[(.ref aS)] 0 0 (fun v h L => v = some (.ref wS) ∧ L = [] ∧ h = h13) := backOf (s := (s.setVm T13.vm)) (R := room_1) (W := 0) (Q := (fun v h L => v = some (.ref wS) ∧ L = [] ∧ h = h13)) (rm := ({ frames := 0, cells := 0, slots := 0, locals := 0 } : Room)) (own_rm_word l Z a0 hw [] aS wS  h13 (MS.ext ((((X00.ext E2).keep K9 all0).keep K11 all0).ext E13).2) ) w13.2.1 (hw _ (List.mem_of_getElem? (i := 142) rfl)) (hw _ (List.mem_of_getElem? (i := 74) rfl)) (by decide) (by decide)
          obtain ⟨T40, X40, e40, st40⟩ := own_pure (own_cV X38 hx w13.2.1 w13.2.2.1 (hw _ (List.mem_of_getElem? (i := 138) rfl)) (hw _ (List.mem_of_getElem? (i := 139) rfl)) (notFace_of_selects (args := #[]) (mvT w13.2.1 (hw _ (List.mem_of_getElem? (i := 141) rfl)))) (hw _ (List.mem_of_getElem? (i := 141) rfl)) (hw _ (List.mem_of_getElem? (i := 140) rfl)) (by decide) e38 (h := h13) (b := aS) (EMS.ext ((((X00.ext E2).keep K9 all0).keep K11 all0).ext E13).2) (argsL := []) (rest := []) K39 (pc := 205) (Ls := #[.val (.int p0), .val (.int p1), .val (.int p2), .val (.int p3), .val (.ref a2), .val (.int z3), .val (.int z4), .val (.int (p1 &&& (15 : Int32))), .val (.int (p1 &&& (15 : Int32))), .val (.int ((p3 &&& (255 : Int32)).toUInt32.toUInt16.toUInt32.toInt32)), .val (.int ((((p3.toUInt32 >>> ((8 : Int32) &&& 31).toUInt32).toInt32) &&& (255 : Int32)).toUInt32.toUInt16.toUInt32.toInt32)), .val (.ref x9), .val (.ref x11), .val (.ref aS)]) (by rw [hml]; rfl) (lenOf own_pd15 rfl) rfl (Nat.le_of_eq rfl) (hb hby at_205) (by decide) (by decide))
          refine own_stW (g' := (mkF m 208 #[.val (.int p0), .val (.int p1), .val (.int p2), .val (.int p3), .val (.ref a2), .val (.int z3), .val (.int z4), .val (.int (p1 &&& (15 : Int32))), .val (.int (p1 &&& (15 : Int32))), .val (.int ((p3 &&& (255 : Int32)).toUInt32.toUInt16.toUInt32.toInt32)), .val (.int ((((p3.toUInt32 >>> ((8 : Int32) &&& 31).toUInt32).toInt32) &&& (255 : Int32)).toUInt32.toUInt16.toUInt32.toInt32)), .val (.ref x9), .val (.ref x11), .val (.ref aS)] [(.ref wS)])) st40 ?_
          refine own_stW (g' := (mkF m 210 #[.val (.int p0), .val (.int p1), .val (.int p2), .val (.int p3), .val (.ref a2), .val (.int z3), .val (.int z4), .val (.int (p1 &&& (15 : Int32))), .val (.int (p1 &&& (15 : Int32))), .val (.int ((p3 &&& (255 : Int32)).toUInt32.toUInt16.toUInt32.toInt32)), .val (.int ((((p3.toUInt32 >>> ((8 : Int32) &&& 31).toUInt32).toInt32) &&& (255 : Int32)).toUInt32.toUInt16.toUInt32.toInt32)), .val (.ref x9), .val (.ref x11), .val (.ref aS)] [(.ref x9), (.ref wS)])) (fun _ q => XS.aload X40.here hx rfl (hb hby at_208) rfl rfl (q)) ?_
          have K41 : own_Bk l room_1 p e below (s.setVm T13.vm) #[(.int p0), (.int p1), (.int p2), (.int p3)] (⟨"java/lang/String", "equals", "(Ljava/lang/Object;)Z"⟩ : MethodName) 0 h13 #[(.ref wS), (.ref x9)] 0 0 (fun v h L => ((v = some (.int 1) ∧ own_shared = cs9) ∨ (v = some (.int 0) ∧ ¬ own_shared = cs9)) ∧ L = [] ∧ h = h13) := StrChars.Road.eqW (s := (s.setVm T13.vm)) (W := 0) w13.2.1 (own_heq hw) (kI := 4) (hw _ (List.mem_of_getElem? (i := 2) rfl)) (ES.ext ((((X00.ext E2).keep K9 all0).keep K11 all0).ext E13).2) (FS.ext ((((X00.ext E2).keep K9 all0).keep K11 all0).ext E13).2) (CS.ext ((((X00.ext E2).keep K9 all0).keep K11 all0).ext E13).2) (KS.ext ((((X00.ext E2).keep K9 all0).keep K11 all0).ext E13).2) own_codS own_hbS (by decide) ((E9.keep K11).ext E13) ((F9.keep K11 nin0).ext E13) ((Cd9.keep K11 nin0).ext E13) ((A9.keep K11 nin0).ext E13) cod9 hb9 l29 (O.ext ((((X00.ext E2).keep K9 all0).keep K11 all0).ext E13).2) hz (by decide) (by decide)
          obtain ⟨v41, T41, hv41, X41, e41, st41⟩ := own_pureE (A := fun v => ((v = some (.int 1) ∧ own_shared = cs9) ∨ (v = some (.int 0) ∧ ¬ own_shared = cs9))) (own_cV X40 hx w13.2.1 w13.2.2.1 (hw _ (List.mem_of_getElem? (i := 109) rfl)) (hw _ (List.mem_of_getElem? (i := 96) rfl)) (notFace_of_selects (args := #[]) (mvT w13.2.1 (hw _ (List.mem_of_getElem? (i := 98) rfl)))) (hw _ (List.mem_of_getElem? (i := 98) rfl)) (hw _ (List.mem_of_getElem? (i := 97) rfl)) (by decide) e40 (h := h13) (b := wS) (ES.ext ((((X00.ext E2).keep K9 all0).keep K11 all0).ext E13).2) (argsL := [(.ref x9)]) (rest := []) K41 (pc := 210) (Ls := #[.val (.int p0), .val (.int p1), .val (.int p2), .val (.int p3), .val (.ref a2), .val (.int z3), .val (.int z4), .val (.int (p1 &&& (15 : Int32))), .val (.int (p1 &&& (15 : Int32))), .val (.int ((p3 &&& (255 : Int32)).toUInt32.toUInt16.toUInt32.toInt32)), .val (.int ((((p3.toUInt32 >>> ((8 : Int32) &&& 31).toUInt32).toInt32) &&& (255 : Int32)).toUInt32.toUInt16.toUInt32.toInt32)), .val (.ref x9), .val (.ref x11), .val (.ref aS)]) (by rw [hml]; rfl) (lenOf own_pd8 rfl) rfl (Nat.le_of_eq rfl) (hb hby at_210) (by decide) (by decide))
          obtain ⟨r41, hr41, rfl⟩ := own_eq01 hv41
          refine own_stW (g' := (mkF m 213 #[.val (.int p0), .val (.int p1), .val (.int p2), .val (.int p3), .val (.ref a2), .val (.int z3), .val (.int z4), .val (.int (p1 &&& (15 : Int32))), .val (.int (p1 &&& (15 : Int32))), .val (.int ((p3 &&& (255 : Int32)).toUInt32.toUInt16.toUInt32.toInt32)), .val (.int ((((p3.toUInt32 >>> ((8 : Int32) &&& 31).toUInt32).toInt32) &&& (255 : Int32)).toUInt32.toUInt16.toUInt32.toInt32)), .val (.ref x9), .val (.ref x11), .val (.ref aS)] [(.int r41)])) st41 ?_
          refine own_stW (g' := (mkF m 221 #[.val (.int p0), .val (.int p1), .val (.int p2), .val (.int p3), .val (.ref a2), .val (.int z3), .val (.int z4), .val (.int (p1 &&& (15 : Int32))), .val (.int (p1 &&& (15 : Int32))), .val (.int ((p3 &&& (255 : Int32)).toUInt32.toUInt16.toUInt32.toInt32)), .val (.int ((((p3.toUInt32 >>> ((8 : Int32) &&& 31).toUInt32).toInt32) &&& (255 : Int32)).toUInt32.toUInt16.toUInt32.toInt32)), .val (.ref x9), .val (.ref x11), .val (.ref aS)] [(.int (1 : Int32))])) (fun _ q => XS.ifNo X41.here hx rfl (hb hby at_213) rfl ((if0 _ _).trans (feq (fun q => own_r0 hr41 q (own_r1 hr14 hc15).symm)).1) (XS.iconst X41.here hx rfl (hb hby at_216) (XS.goto X41.here hx rfl (pc0 := 217) (pc' := 221) rfl (hb hby at_217) (by decide) (by decide) (q)))) ?_
          exact own_goWN X41 hh w13 hEL e41 hlk hx (t := .boolean) (by simp) Bd.returns (hb hby at_221) ⟨rfl, N11⟩ (by decide) (by decide)
      · -- not: z4 = (0 : Int32)
        refine own_stW (g' := (mkF m 120 #[.val (.int p0), .val (.int p1), .val (.int p2), .val (.int p3), .val (.ref a2), .val (.int z3), .val (.int z4), .val (.int (p1 &&& (15 : Int32))), .val (.int (p1 &&& (15 : Int32))), .val (.int ((p3 &&& (255 : Int32)).toUInt32.toUInt16.toUInt32.toInt32)), .val (.int ((((p3.toUInt32 >>> ((8 : Int32) &&& 31).toUInt32).toInt32) &&& (255 : Int32)).toUInt32.toUInt16.toUInt32.toInt32)), .val .null, .unset, .unset] [.null])) (fun _ q => XS.ifNo X2.here hx rfl (hb hby at_92) rfl ((if0 _ _).trans (feq hc6).1) (XS.aconstNull X2.here hx rfl (hb hby at_95) (XS.goto X2.here hx rfl (pc0 := 96) (pc' := 116) rfl (hb hby at_96) (by decide) (by decide) (XS.astore X2.here hx rfl (hb hby at_116) rfl rfl (l' := #[.val (.int p0), .val (.int p1), .val (.int p2), .val (.int p3), .val (.ref a2), .val (.int z3), .val (.int z4), .val (.int (p1 &&& (15 : Int32))), .val (.int (p1 &&& (15 : Int32))), .val (.int ((p3 &&& (255 : Int32)).toUInt32.toUInt16.toUInt32.toInt32)), .val (.int ((((p3.toUInt32 >>> ((8 : Int32) &&& 31).toUInt32).toInt32) &&& (255 : Int32)).toUInt32.toUInt16.toUInt32.toInt32)), .val .null, .unset, .unset]) rfl (XS.aload X2.here hx rfl (hb hby at_118) rfl rfl (q)))))) ?_
        have K42 : own_Bk l room_1 p e below (s.setVm T2.vm) #[(.int p0), (.int p1), (.int p2), (.int p3)] (⟨"org/proofstand/runner/VmMode", "named", "(Ljava/lang/String;)Ljava/util/Optional;"⟩ : MethodName) 0 h2 #[.null] 1 2 (own_Q_namedN Z aV aS aF aE wS tS wF tF kv kS kF z n0 h2) := backOf (s := (s.setVm T2.vm)) (R := room_1) (W := 0) (Q := (own_Q_namedN Z aV aS aF aE wS tS wF tF kv kS kF z n0 h2)) (rm := ({ frames := 2, cells := 1, slots := 2, locals := 25 } : Room)) (own_rm_namedN l Z a0 hw [] aV aS aF aE wS tS wF tF kv kS kF z n0 h2 (Nat.le_trans Z0 E2.1) (X00.ext E2) O hz OV VV EV OE EE FE ES FS CS KS MS EMS EF FF CF KF MF EMF) w2.2.1 (hw _ (List.mem_of_getElem? (i := 75) rfl)) (hw _ (List.mem_of_getElem? (i := 74) rfl)) (by decide) (by decide)
        obtain ⟨_, L43, T43, X43, ⟨N43q, K43, x43, rfl, E43, F43⟩, st43⟩ := own_cS X2 hx w2.2.1 w2.2.2.1 (hw _ (List.mem_of_getElem? (i := 72) rfl)) (hw _ (List.mem_of_getElem? (i := 73) rfl)) (hw _ (List.mem_of_getElem? (i := 74) rfl)) (hw _ (List.mem_of_getElem? (i := 75) rfl)) (by decide) e2 (h := h2) (argsL := [.null]) (rest := []) K42 (pc := 120) (Ls := #[.val (.int p0), .val (.int p1), .val (.int p2), .val (.int p3), .val (.ref a2), .val (.int z3), .val (.int z4), .val (.int (p1 &&& (15 : Int32))), .val (.int (p1 &&& (15 : Int32))), .val (.int ((p3 &&& (255 : Int32)).toUInt32.toUInt16.toUInt32.toInt32)), .val (.int ((((p3.toUInt32 >>> ((8 : Int32) &&& 31).toUInt32).toInt32) &&& (255 : Int32)).toUInt32.toUInt16.toUInt32.toInt32)), .val .null, .unset, .unset]) (by rw [hml]; rfl) (lenOf own_pd12 rfl) rfl (Nat.le_of_eq rfl) (hb hby at_120) (by decide) (by decide)
        have N43 := Fr.app N0 N43q
        have w44 := w2.keep K43 sf0
        refine own_stW (g' := (mkF m 123 #[.val (.int p0), .val (.int p1), .val (.int p2), .val (.int p3), .val (.ref a2), .val (.int z3), .val (.int z4), .val (.int (p1 &&& (15 : Int32))), .val (.int (p1 &&& (15 : Int32))), .val (.int ((p3 &&& (255 : Int32)).toUInt32.toUInt16.toUInt32.toInt32)), .val (.int ((((p3.toUInt32 >>> ((8 : Int32) &&& 31).toUInt32).toInt32) &&& (255 : Int32)).toUInt32.toUInt16.toUInt32.toInt32)), .val .null, .unset, .unset] [(.ref x43)])) st43 ?_
        refine own_stW (g' := (mkF m 173 #[.val (.int p0), .val (.int p1), .val (.int p2), .val (.int p3), .val (.ref a2), .val (.int z3), .val (.int z4), .val (.int (p1 &&& (15 : Int32))), .val (.int (p1 &&& (15 : Int32))), .val (.int ((p3 &&& (255 : Int32)).toUInt32.toUInt16.toUInt32.toInt32)), .val (.int ((((p3.toUInt32 >>> ((8 : Int32) &&& 31).toUInt32).toInt32) &&& (255 : Int32)).toUInt32.toUInt16.toUInt32.toInt32)), .val .null, .val (.ref x43), .val .null] [(.ref x43)])) (fun _ q => XS.astore X43.here hx rfl (hb hby at_123) rfl rfl (l' := #[.val (.int p0), .val (.int p1), .val (.int p2), .val (.int p3), .val (.ref a2), .val (.int z3), .val (.int z4), .val (.int (p1 &&& (15 : Int32))), .val (.int (p1 &&& (15 : Int32))), .val (.int ((p3 &&& (255 : Int32)).toUInt32.toUInt16.toUInt32.toInt32)), .val (.int ((((p3.toUInt32 >>> ((8 : Int32) &&& 31).toUInt32).toInt32) &&& (255 : Int32)).toUInt32.toUInt16.toUInt32.toInt32)), .val .null, .val (.ref x43), .unset]) rfl (XS.aconstNull X43.here hx rfl (hb hby at_125) (XS.astore X43.here hx rfl (hb hby at_126) rfl rfl (l' := #[.val (.int p0), .val (.int p1), .val (.int p2), .val (.int p3), .val (.ref a2), .val (.int z3), .val (.int z4), .val (.int (p1 &&& (15 : Int32))), .val (.int (p1 &&& (15 : Int32))), .val (.int ((p3 &&& (255 : Int32)).toUInt32.toUInt16.toUInt32.toInt32)), .val (.int ((((p3.toUInt32 >>> ((8 : Int32) &&& 31).toUInt32).toInt32) &&& (255 : Int32)).toUInt32.toUInt16.toUInt32.toInt32)), .val .null, .val (.ref x43), .val .null]) rfl (XS.aload X43.here hx rfl (hb hby at_128) rfl rfl (XS.ifnullYes X43.here hx rfl (pc0 := 130) (pc' := 166) rfl (hb hby at_130) rfl (by decide) (by decide) (XS.aload X43.here hx rfl (hb hby at_166) rfl rfl (XS.ifnonnullNo X43.here hx rfl (hb hby at_168) rfl (XS.aload X43.here hx rfl (hb hby at_171) rfl rfl (q))))))))) ?_
        obtain ⟨r46, hr46⟩ : ∃ z : Int32, z = own_f_isp0 := ⟨_, rfl⟩
        have K46 : own_Bk l room_1 p e below (s.setVm T2.vm) #[(.int p0), (.int p1), (.int p2), (.int p3)] (⟨"java/util/Optional", "isPresent", "()Z"⟩ : MethodName) 0 T43.heap #[(.ref x43)] 0 0 (fun v h L => v = some (.int r46) ∧ L = [] ∧ h = T43.heap) := backOf (s := (s.setVm T2.vm)) (R := room_1) (W := 0) (Q := (fun v h L => v = some (.int r46) ∧ L = [] ∧ h = T43.heap)) (rm := ({ frames := 0, cells := 0, slots := 0, locals := 0 } : Room)) (own_rm_isp0 l Z a0 hw [] x43 r46 T43.heap F43 (by rw [hr46])) w44.2.1 (hw _ (List.mem_of_getElem? (i := 115) rfl)) (hw _ (List.mem_of_getElem? (i := 106) rfl)) (by decide) (by decide)
        obtain ⟨T47, X47, e47, st47⟩ := own_pure (own_cV X43 hx w44.2.1 w44.2.2.1 (hw _ (List.mem_of_getElem? (i := 111) rfl)) (hw _ (List.mem_of_getElem? (i := 112) rfl)) (notFace_of_selects (args := #[]) (mvT w44.2.1 (hw _ (List.mem_of_getElem? (i := 114) rfl)))) (hw _ (List.mem_of_getElem? (i := 114) rfl)) (hw _ (List.mem_of_getElem? (i := 113) rfl)) (by decide) rfl (h := T43.heap) (b := x43) E43 (argsL := []) (rest := []) K46 (pc := 173) (Ls := #[.val (.int p0), .val (.int p1), .val (.int p2), .val (.int p3), .val (.ref a2), .val (.int z3), .val (.int z4), .val (.int (p1 &&& (15 : Int32))), .val (.int (p1 &&& (15 : Int32))), .val (.int ((p3 &&& (255 : Int32)).toUInt32.toUInt16.toUInt32.toInt32)), .val (.int ((((p3.toUInt32 >>> ((8 : Int32) &&& 31).toUInt32).toInt32) &&& (255 : Int32)).toUInt32.toUInt16.toUInt32.toInt32)), .val .null, .val (.ref x43), .val .null]) (by rw [hml]; rfl) (lenOf own_pd13 rfl) rfl (Nat.le_of_eq rfl) (hb hby at_173) (by decide) (by decide))
        refine own_stW (g' := (mkF m 176 #[.val (.int p0), .val (.int p1), .val (.int p2), .val (.int p3), .val (.ref a2), .val (.int z3), .val (.int z4), .val (.int (p1 &&& (15 : Int32))), .val (.int (p1 &&& (15 : Int32))), .val (.int ((p3 &&& (255 : Int32)).toUInt32.toUInt16.toUInt32.toInt32)), .val (.int ((((p3.toUInt32 >>> ((8 : Int32) &&& 31).toUInt32).toInt32) &&& (255 : Int32)).toUInt32.toUInt16.toUInt32.toInt32)), .val .null, .val (.ref x43), .val .null] [(.int r46)])) st47 ?_
        refine own_stW (g' := (mkF m 184 #[.val (.int p0), .val (.int p1), .val (.int p2), .val (.int p3), .val (.ref a2), .val (.int z3), .val (.int z4), .val (.int (p1 &&& (15 : Int32))), .val (.int (p1 &&& (15 : Int32))), .val (.int ((p3 &&& (255 : Int32)).toUInt32.toUInt16.toUInt32.toInt32)), .val (.int ((((p3.toUInt32 >>> ((8 : Int32) &&& 31).toUInt32).toInt32) &&& (255 : Int32)).toUInt32.toUInt16.toUInt32.toInt32)), .val .null, .val (.ref x43), .val .null] [(.int (1 : Int32))])) (fun _ q => XS.ifNo X47.here hx rfl (hb hby at_176) rfl ((if0 _ _).trans (teq (by rw [hr46]; decide)).2) (XS.iconst X47.here hx rfl (hb hby at_179) (XS.goto X47.here hx rfl (pc0 := 180) (pc' := 184) rfl (hb hby at_180) (by decide) (by decide) (q)))) ?_
        exact own_goWN X47 hh w44 hEL e47 hlk hx (t := .boolean) (by simp) Bd.returns (hb hby at_184) ⟨rfl, N43⟩ (by decide) (by decide)
    · -- not: (p1 &&& (15 : Int32)) < (8 : Int32)
      refine own_stW (g' := (mkF m 66 #[.val (.int p0), .val (.int p1), .val (.int p2), .val (.int p3), .val (.ref a2), .val (.int z3), .val (.int z4), .val (.int (p1 &&& (15 : Int32))), .unset, .unset, .unset, .unset, .unset, .unset] [(.ref a2)])) (fun _ q => XS.icmpYes X2.here hx rfl (pc0 := 56) (pc' := 64) rfl (hb hby at_56) rfl (flt hc5).2.1 (by decide) (by decide) (XS.aload X2.here hx rfl (hb hby at_64) rfl rfl (q))) ?_
      have K48 : own_Bk l room_1 p e below (s.setVm T2.vm) #[(.int p0), (.int p1), (.int p2), (.int p3)] (⟨"java/lang/String", "length", "()I"⟩ : MethodName) 0 h2 #[(.ref a2)] 0 0 (fun v h L => v = some (.int (Int32.ofNat own_shared.length)) ∧ L = [] ∧ h = h2) := StrChars.Road.lenW (s := (s.setVm T2.vm)) (W := 0) w2.2.1 (own_hln hw) (kI := 4) (hw _ (List.mem_of_getElem? (i := 2) rfl)) Ea2 Fa2 Ca2 Va2 own_codS own_hbS (O.ext (X00.ext E2).2) hz (by decide) (by decide) (by decide)
      obtain ⟨T49, X49, e49, st49⟩ := own_pure (own_cV X2 hx w2.2.1 w2.2.2.1 (hw _ (List.mem_of_getElem? (i := 15) rfl)) (hw _ (List.mem_of_getElem? (i := 16) rfl)) (notFace_of_selects (args := #[]) (mvT w2.2.1 (hw _ (List.mem_of_getElem? (i := 18) rfl)))) (hw _ (List.mem_of_getElem? (i := 18) rfl)) (hw _ (List.mem_of_getElem? (i := 17) rfl)) (by decide) e2 (h := h2) (b := a2) Ea2 (argsL := []) (rest := []) K48 (pc := 66) (Ls := #[.val (.int p0), .val (.int p1), .val (.int p2), .val (.int p3), .val (.ref a2), .val (.int z3), .val (.int z4), .val (.int (p1 &&& (15 : Int32))), .unset, .unset, .unset, .unset, .unset, .unset]) (by rw [hml]; rfl) (lenOf own_pd0 rfl) rfl (Nat.le_of_eq rfl) (hb hby at_66) (by decide) (by decide))
      refine own_stW (g' := (mkF m 69 #[.val (.int p0), .val (.int p1), .val (.int p2), .val (.int p3), .val (.ref a2), .val (.int z3), .val (.int z4), .val (.int (p1 &&& (15 : Int32))), .unset, .unset, .unset, .unset, .unset, .unset] [(.int (Int32.ofNat own_shared.length))])) st49 ?_
      refine own_stW (g' := (mkF m 92 #[.val (.int p0), .val (.int p1), .val (.int p2), .val (.int p3), .val (.ref a2), .val (.int z3), .val (.int z4), .val (.int (p1 &&& (15 : Int32))), .val (.int (Int32.ofNat own_shared.length)), .val (.int ((p3 &&& (255 : Int32)).toUInt32.toUInt16.toUInt32.toInt32)), .val (.int ((((p3.toUInt32 >>> ((8 : Int32) &&& 31).toUInt32).toInt32) &&& (255 : Int32)).toUInt32.toUInt16.toUInt32.toInt32)), .unset, .unset, .unset] [(.int z4)])) (fun _ q => XS.istore X49.here hx rfl (hb hby at_69) rfl (l' := #[.val (.int p0), .val (.int p1), .val (.int p2), .val (.int p3), .val (.ref a2), .val (.int z3), .val (.int z4), .val (.int (p1 &&& (15 : Int32))), .val (.int (Int32.ofNat own_shared.length)), .unset, .unset, .unset, .unset, .unset]) rfl (XS.iloadN X49.here hx rfl (hb hby at_71) rfl (XS.sipush X49.here hx rfl (hb hby at_72) (XS.iand X49.here hx rfl (hb hby at_75) rfl (XS.i2c X49.here hx rfl (hb hby at_76) rfl (XS.istore X49.here hx rfl (hb hby at_77) rfl (l' := #[.val (.int p0), .val (.int p1), .val (.int p2), .val (.int p3), .val (.ref a2), .val (.int z3), .val (.int z4), .val (.int (p1 &&& (15 : Int32))), .val (.int (Int32.ofNat own_shared.length)), .val (.int ((p3 &&& (255 : Int32)).toUInt32.toUInt16.toUInt32.toInt32)), .unset, .unset, .unset, .unset]) rfl (XS.iloadN X49.here hx rfl (hb hby at_79) rfl (XS.bipush X49.here hx rfl (hb hby at_80) (XS.iushr X49.here hx rfl (hb hby at_82) rfl (XS.sipush X49.here hx rfl (hb hby at_83) (XS.iand X49.here hx rfl (hb hby at_86) rfl (XS.i2c X49.here hx rfl (hb hby at_87) rfl (XS.istore X49.here hx rfl (hb hby at_88) rfl (l' := #[.val (.int p0), .val (.int p1), .val (.int p2), .val (.int p3), .val (.ref a2), .val (.int z3), .val (.int z4), .val (.int (p1 &&& (15 : Int32))), .val (.int (Int32.ofNat own_shared.length)), .val (.int ((p3 &&& (255 : Int32)).toUInt32.toUInt16.toUInt32.toInt32)), .val (.int ((((p3.toUInt32 >>> ((8 : Int32) &&& 31).toUInt32).toInt32) &&& (255 : Int32)).toUInt32.toUInt16.toUInt32.toInt32)), .unset, .unset, .unset]) rfl (XS.iload X49.here hx rfl (hb hby at_90) rfl (q))))))))))))))) ?_
      by_cases hc50 : z4 = (0 : Int32)
      · -- z4 = (0 : Int32)
        refine own_stW (g' := (mkF m 113 #[.val (.int p0), .val (.int p1), .val (.int p2), .val (.int p3), .val (.ref a2), .val (.int z3), .val (.int z4), .val (.int (p1 &&& (15 : Int32))), .val (.int (Int32.ofNat own_shared.length)), .val (.int ((p3 &&& (255 : Int32)).toUInt32.toUInt16.toUInt32.toInt32)), .val (.int ((((p3.toUInt32 >>> ((8 : Int32) &&& 31).toUInt32).toInt32) &&& (255 : Int32)).toUInt32.toUInt16.toUInt32.toInt32)), .unset, .unset, .unset] [(.int ((((p3.toUInt32 >>> ((8 : Int32) &&& 31).toUInt32).toInt32) &&& (255 : Int32)).toUInt32.toUInt16.toUInt32.toInt32)), (.int ((p3 &&& (255 : Int32)).toUInt32.toUInt16.toUInt32.toInt32)), (.int z3), (.int (p2 &&& (7 : Int32))), (.int (Int32.ofNat own_shared.length)), (.ref a2)])) (fun _ q => XS.ifYes X49.here hx rfl (pc0 := 92) (pc' := 99) rfl (hb hby at_92) rfl ((if0 _ _).trans (teq hc50).1) (by decide) (by decide) (XS.aload X49.here hx rfl (hb hby at_99) rfl rfl (XS.iload X49.here hx rfl (hb hby at_101) rfl (XS.iloadN X49.here hx rfl (hb hby at_103) rfl (XS.bipush X49.here hx rfl (hb hby at_104) (XS.iand X49.here hx rfl (hb hby at_106) rfl (XS.iload X49.here hx rfl (hb hby at_107) rfl (XS.iload X49.here hx rfl (hb hby at_109) rfl (XS.iload X49.here hx rfl (hb hby at_111) rfl (q)))))))))) ?_
        obtain ⟨d0, hd0⟩ : ∃ z : Int32, z = nar .char (own_f_at own_shared 0 (0 : Int32) (p2 &&& (7 : Int32)) z3 ((p3 &&& (255 : Int32)).toUInt32.toUInt16.toUInt32.toInt32) ((((p3.toUInt32 >>> ((8 : Int32) &&& 31).toUInt32).toInt32) &&& (255 : Int32)).toUInt32.toUInt16.toUInt32.toInt32)) := ⟨_, rfl⟩
        have gd0 : ¬ d0 < 0 ∧ ¬ (255 : Int32) < d0 := by rw [hd0]; exact own_at_rng _ _ _ _ _ _ _ own_shS (own_and255 _) (own_and255 _)
        obtain ⟨d1, hd1⟩ : ∃ z : Int32, z = nar .char (own_f_at own_shared 1 (1 : Int32) (p2 &&& (7 : Int32)) z3 ((p3 &&& (255 : Int32)).toUInt32.toUInt16.toUInt32.toInt32) ((((p3.toUInt32 >>> ((8 : Int32) &&& 31).toUInt32).toInt32) &&& (255 : Int32)).toUInt32.toUInt16.toUInt32.toInt32)) := ⟨_, rfl⟩
        have gd1 : ¬ d1 < 0 ∧ ¬ (255 : Int32) < d1 := by rw [hd1]; exact own_at_rng _ _ _ _ _ _ _ own_shS (own_and255 _) (own_and255 _)
        obtain ⟨d2, hd2⟩ : ∃ z : Int32, z = nar .char (own_f_at own_shared 2 (2 : Int32) (p2 &&& (7 : Int32)) z3 ((p3 &&& (255 : Int32)).toUInt32.toUInt16.toUInt32.toInt32) ((((p3.toUInt32 >>> ((8 : Int32) &&& 31).toUInt32).toInt32) &&& (255 : Int32)).toUInt32.toUInt16.toUInt32.toInt32)) := ⟨_, rfl⟩
        have gd2 : ¬ d2 < 0 ∧ ¬ (255 : Int32) < d2 := by rw [hd2]; exact own_at_rng _ _ _ _ _ _ _ own_shS (own_and255 _) (own_and255 _)
        obtain ⟨d3, hd3⟩ : ∃ z : Int32, z = nar .char (own_f_at own_shared 3 (3 : Int32) (p2 &&& (7 : Int32)) z3 ((p3 &&& (255 : Int32)).toUInt32.toUInt16.toUInt32.toInt32) ((((p3.toUInt32 >>> ((8 : Int32) &&& 31).toUInt32).toInt32) &&& (255 : Int32)).toUInt32.toUInt16.toUInt32.toInt32)) := ⟨_, rfl⟩
        have gd3 : ¬ d3 < 0 ∧ ¬ (255 : Int32) < d3 := by rw [hd3]; exact own_at_rng _ _ _ _ _ _ _ own_shS (own_and255 _) (own_and255 _)
        obtain ⟨d4, hd4⟩ : ∃ z : Int32, z = nar .char (own_f_at own_shared 4 (4 : Int32) (p2 &&& (7 : Int32)) z3 ((p3 &&& (255 : Int32)).toUInt32.toUInt16.toUInt32.toInt32) ((((p3.toUInt32 >>> ((8 : Int32) &&& 31).toUInt32).toInt32) &&& (255 : Int32)).toUInt32.toUInt16.toUInt32.toInt32)) := ⟨_, rfl⟩
        have gd4 : ¬ d4 < 0 ∧ ¬ (255 : Int32) < d4 := by rw [hd4]; exact own_at_rng _ _ _ _ _ _ _ own_shS (own_and255 _) (own_and255 _)
        obtain ⟨d5, hd5⟩ : ∃ z : Int32, z = nar .char (own_f_at own_shared 5 (5 : Int32) (p2 &&& (7 : Int32)) z3 ((p3 &&& (255 : Int32)).toUInt32.toUInt16.toUInt32.toInt32) ((((p3.toUInt32 >>> ((8 : Int32) &&& 31).toUInt32).toInt32) &&& (255 : Int32)).toUInt32.toUInt16.toUInt32.toInt32)) := ⟨_, rfl⟩
        have gd5 : ¬ d5 < 0 ∧ ¬ (255 : Int32) < d5 := by rw [hd5]; exact own_at_rng _ _ _ _ _ _ _ own_shS (own_and255 _) (own_and255 _)
        obtain ⟨d6, hd6⟩ : ∃ z : Int32, z = nar .char (own_f_at own_shared 6 (6 : Int32) (p2 &&& (7 : Int32)) z3 ((p3 &&& (255 : Int32)).toUInt32.toUInt16.toUInt32.toInt32) ((((p3.toUInt32 >>> ((8 : Int32) &&& 31).toUInt32).toInt32) &&& (255 : Int32)).toUInt32.toUInt16.toUInt32.toInt32)) := ⟨_, rfl⟩
        have gd6 : ¬ d6 < 0 ∧ ¬ (255 : Int32) < d6 := by rw [hd6]; exact own_at_rng _ _ _ _ _ _ _ own_shS (own_and255 _) (own_and255 _)
        have K52 : own_BkW l room_1 p e below s #[(.int p0), (.int p1), (.int p2), (.int p3)] (⟨"org/proofstand/runner/VmModeNamedPinLaw", "build", "(Ljava/lang/String;IIZCC)Ljava/lang/String;"⟩ : MethodName) 0 Z own_EL T2.vm h2 #[(.ref a2), (.int (Int32.ofNat own_shared.length)), (.int (p2 &&& (7 : Int32))), (.int z3), (.int ((p3 &&& (255 : Int32)).toUInt32.toUInt16.toUInt32.toInt32)), (.int ((((p3.toUInt32 >>> ((8 : Int32) &&& 31).toUInt32).toInt32) &&& (255 : Int32)).toUInt32.toUInt16.toUInt32.toInt32))] 6 18 (own_Q_build Z a2 t2 kb2 own_shared (6 : Int32) own_vsS (Int32.ofNat own_shared.length) (p2 &&& (7 : Int32)) z3 ((p3 &&& (255 : Int32)).toUInt32.toUInt16.toUInt32.toInt32) ((((p3.toUInt32 >>> ((8 : Int32) &&& 31).toUInt32).toInt32) &&& (255 : Int32)).toUInt32.toUInt16.toUInt32.toInt32) z d0 d1 d2 d3 d4 d5 d6 fm n0 h2) := own_backW (R := room_1) (W := 0) (Qc := (own_Q_build Z a2 t2 kb2 own_shared (6 : Int32) own_vsS (Int32.ofNat own_shared.length) (p2 &&& (7 : Int32)) z3 ((p3 &&& (255 : Int32)).toUInt32.toUInt16.toUInt32.toInt32) ((((p3.toUInt32 >>> ((8 : Int32) &&& 31).toUInt32).toInt32) &&& (255 : Int32)).toUInt32.toUInt16.toUInt32.toInt32) z d0 d1 d2 d3 d4 d5 d6 fm n0 h2)) (rm := ({ frames := 5, cells := 6, slots := 18, locals := 70 } : Room)) (xs := []) (own_rm_build l Z a0 hw [] a2 t2 kb2 own_shared (6 : Int32) own_vsS (Int32.ofNat own_shared.length) (p2 &&& (7 : Int32)) z3 ((p3 &&& (255 : Int32)).toUInt32.toUInt16.toUInt32.toInt32) ((((p3.toUInt32 >>> ((8 : Int32) &&& 31).toUInt32).toInt32) &&& (255 : Int32)).toUInt32.toUInt16.toUInt32.toInt32) z d0 d1 d2 d3 d4 d5 d6 fm n0 h2 Ea2 Fa2 Ca2 Va2 own_codS own_hbS (by decide) O hz Om rf (Nat.le_trans Z0 E2.1) (X00.ext E2) hd0 gd0 hd1 gd1 hd2 gd2 hd3 gd3 hd4 gd4 hd5 gd5 hd6 gd6) w2 (hw _ (List.mem_of_getElem? (i := 11) rfl)) (hw _ (List.mem_of_getElem? (i := 10) rfl)) (by decide) (by decide) hEL all0
        obtain ⟨_, L53, T53, X53, ⟨N53q, K53, x53, t53, kb53, N253, vs53, rfl, u53, E53, F53, Cd53, A53, cod53⟩, w53, C53, st53⟩ := own_cSW X49 hx w2 (hw _ (List.mem_of_getElem? (i := 8) rfl)) (hw _ (List.mem_of_getElem? (i := 9) rfl)) (hw _ (List.mem_of_getElem? (i := 10) rfl)) (hw _ (List.mem_of_getElem? (i := 11) rfl)) (by decide) e49 (h := h2) (argsL := [(.ref a2), (.int (Int32.ofNat own_shared.length)), (.int (p2 &&& (7 : Int32))), (.int z3), (.int ((p3 &&& (255 : Int32)).toUInt32.toUInt16.toUInt32.toInt32)), (.int ((((p3.toUInt32 >>> ((8 : Int32) &&& 31).toUInt32).toInt32) &&& (255 : Int32)).toUInt32.toUInt16.toUInt32.toInt32))]) (rest := []) K52 (pc := 113) (Ls := #[.val (.int p0), .val (.int p1), .val (.int p2), .val (.int p3), .val (.ref a2), .val (.int z3), .val (.int z4), .val (.int (p1 &&& (15 : Int32))), .val (.int (Int32.ofNat own_shared.length)), .val (.int ((p3 &&& (255 : Int32)).toUInt32.toUInt16.toUInt32.toInt32)), .val (.int ((((p3.toUInt32 >>> ((8 : Int32) &&& 31).toUInt32).toInt32) &&& (255 : Int32)).toUInt32.toUInt16.toUInt32.toInt32)), .unset, .unset, .unset]) (by rw [hml]; rfl) (lenOf own_pd11 rfl) rfl (Nat.le_of_eq rfl) (hb hby at_113) (by decide) (by decide)
        have N53 := Fr.app N0 N53q
        obtain ⟨cs53, hcs53⟩ : ∃ z, z = own_bs (Int32.ofNat own_shared.length) d0 d1 d2 d3 d4 d5 d6 := ⟨_, rfl⟩
        rw [← hcs53] at cod53
        have hb53 : ∀ c ∈ cs53, ¬ c < 0 ∧ ¬ (65535 : Int32) < c := by rw [hcs53]; exact own_bs_rng _ _ _ _ _ _ _ _ gd0 gd1 gd2 gd3 gd4 gd5 gd6
        have l253 : cs53.length ≤ 4000 := by rw [hcs53]; exact own_bs_len _ _ _ _ _ _ _ _
        refine own_stW (g' := (mkF m 116 #[.val (.int p0), .val (.int p1), .val (.int p2), .val (.int p3), .val (.ref a2), .val (.int z3), .val (.int z4), .val (.int (p1 &&& (15 : Int32))), .val (.int (Int32.ofNat own_shared.length)), .val (.int ((p3 &&& (255 : Int32)).toUInt32.toUInt16.toUInt32.toInt32)), .val (.int ((((p3.toUInt32 >>> ((8 : Int32) &&& 31).toUInt32).toInt32) &&& (255 : Int32)).toUInt32.toUInt16.toUInt32.toInt32)), .unset, .unset, .unset] [(.ref x53)])) st53 ?_
        refine own_stW (g' := (mkF m 120 #[.val (.int p0), .val (.int p1), .val (.int p2), .val (.int p3), .val (.ref a2), .val (.int z3), .val (.int z4), .val (.int (p1 &&& (15 : Int32))), .val (.int (Int32.ofNat own_shared.length)), .val (.int ((p3 &&& (255 : Int32)).toUInt32.toUInt16.toUInt32.toInt32)), .val (.int ((((p3.toUInt32 >>> ((8 : Int32) &&& 31).toUInt32).toInt32) &&& (255 : Int32)).toUInt32.toUInt16.toUInt32.toInt32)), .val (.ref x53), .unset, .unset] [(.ref x53)])) (fun _ q => XS.astore X53.here hx rfl (hb hby at_116) rfl rfl (l' := #[.val (.int p0), .val (.int p1), .val (.int p2), .val (.int p3), .val (.ref a2), .val (.int z3), .val (.int z4), .val (.int (p1 &&& (15 : Int32))), .val (.int (Int32.ofNat own_shared.length)), .val (.int ((p3 &&& (255 : Int32)).toUInt32.toUInt16.toUInt32.toInt32)), .val (.int ((((p3.toUInt32 >>> ((8 : Int32) &&& 31).toUInt32).toInt32) &&& (255 : Int32)).toUInt32.toUInt16.toUInt32.toInt32)), .val (.ref x53), .unset, .unset]) rfl (XS.aload X53.here hx rfl (hb hby at_118) rfl rfl (q))) ?_
        have K54 : own_Bk l room_1 p e below (s.setVm T53.vm) #[(.int p0), (.int p1), (.int p2), (.int p3)] (⟨"org/proofstand/runner/VmMode", "named", "(Ljava/lang/String;)Ljava/util/Optional;"⟩ : MethodName) 0 T53.heap #[(.ref x53)] 2 3 (own_Q_named Z x53 t53 kb53 cs53 N253 vs53 aV aS aF aE wS tS wF tF kv kS kF z n0 T53.heap) := backOf (s := (s.setVm T53.vm)) (R := room_1) (W := 0) (Q := (own_Q_named Z x53 t53 kb53 cs53 N253 vs53 aV aS aF aE wS tS wF tF kv kS kF z n0 T53.heap)) (rm := ({ frames := 3, cells := 2, slots := 3, locals := 38 } : Room)) (own_rm_named l Z a0 hw [] x53 t53 kb53 cs53 N253 vs53 aV aS aF aE wS tS wF tF kv kS kF z n0 T53.heap E53 F53 Cd53 A53 cod53 hb53 l253 (Nat.le_trans Z0 (Nat.le_trans E2.1 K53.1)) ((X00.ext E2).keep K53 all0) O hz OV VV EV OE EE FE ES FS CS KS MS EMS EF FF CF KF MF EMF) w53.2.1 (hw _ (List.mem_of_getElem? (i := 75) rfl)) (hw _ (List.mem_of_getElem? (i := 74) rfl)) (by decide) (by decide)
        obtain ⟨_, L55, T55, X55, ⟨N55q, K55, x55, rfl, E55, F55⟩, st55⟩ := own_cS X53 hx w53.2.1 w53.2.2.1 (hw _ (List.mem_of_getElem? (i := 72) rfl)) (hw _ (List.mem_of_getElem? (i := 73) rfl)) (hw _ (List.mem_of_getElem? (i := 74) rfl)) (hw _ (List.mem_of_getElem? (i := 75) rfl)) (by decide) rfl (h := T53.heap) (argsL := [(.ref x53)]) (rest := []) K54 (pc := 120) (Ls := #[.val (.int p0), .val (.int p1), .val (.int p2), .val (.int p3), .val (.ref a2), .val (.int z3), .val (.int z4), .val (.int (p1 &&& (15 : Int32))), .val (.int (Int32.ofNat own_shared.length)), .val (.int ((p3 &&& (255 : Int32)).toUInt32.toUInt16.toUInt32.toInt32)), .val (.int ((((p3.toUInt32 >>> ((8 : Int32) &&& 31).toUInt32).toInt32) &&& (255 : Int32)).toUInt32.toUInt16.toUInt32.toInt32)), .val (.ref x53), .unset, .unset]) (by rw [hml]; rfl) (lenOf own_pd12 rfl) rfl (Nat.le_of_eq rfl) (hb hby at_120) (by decide) (by decide)
        have N55 := Fr.app N53 N55q
        have w56 := w53.keep K55 sf0
        refine own_stW (g' := (mkF m 123 #[.val (.int p0), .val (.int p1), .val (.int p2), .val (.int p3), .val (.ref a2), .val (.int z3), .val (.int z4), .val (.int (p1 &&& (15 : Int32))), .val (.int (Int32.ofNat own_shared.length)), .val (.int ((p3 &&& (255 : Int32)).toUInt32.toUInt16.toUInt32.toInt32)), .val (.int ((((p3.toUInt32 >>> ((8 : Int32) &&& 31).toUInt32).toInt32) &&& (255 : Int32)).toUInt32.toUInt16.toUInt32.toInt32)), .val (.ref x53), .unset, .unset] [(.ref x55)])) st55 ?_
        refine own_stW (g' := (mkF m 135 #[.val (.int p0), .val (.int p1), .val (.int p2), .val (.int p3), .val (.ref a2), .val (.int z3), .val (.int z4), .val (.int (p1 &&& (15 : Int32))), .val (.int (Int32.ofNat own_shared.length)), .val (.int ((p3 &&& (255 : Int32)).toUInt32.toUInt16.toUInt32.toInt32)), .val (.int ((((p3.toUInt32 >>> ((8 : Int32) &&& 31).toUInt32).toInt32) &&& (255 : Int32)).toUInt32.toUInt16.toUInt32.toInt32)), .val (.ref x53), .val (.ref x55), .val .null] [(.ref x53)])) (fun _ q => XS.astore X55.here hx rfl (hb hby at_123) rfl rfl (l' := #[.val (.int p0), .val (.int p1), .val (.int p2), .val (.int p3), .val (.ref a2), .val (.int z3), .val (.int z4), .val (.int (p1 &&& (15 : Int32))), .val (.int (Int32.ofNat own_shared.length)), .val (.int ((p3 &&& (255 : Int32)).toUInt32.toUInt16.toUInt32.toInt32)), .val (.int ((((p3.toUInt32 >>> ((8 : Int32) &&& 31).toUInt32).toInt32) &&& (255 : Int32)).toUInt32.toUInt16.toUInt32.toInt32)), .val (.ref x53), .val (.ref x55), .unset]) rfl (XS.aconstNull X55.here hx rfl (hb hby at_125) (XS.astore X55.here hx rfl (hb hby at_126) rfl rfl (l' := #[.val (.int p0), .val (.int p1), .val (.int p2), .val (.int p3), .val (.ref a2), .val (.int z3), .val (.int z4), .val (.int (p1 &&& (15 : Int32))), .val (.int (Int32.ofNat own_shared.length)), .val (.int ((p3 &&& (255 : Int32)).toUInt32.toUInt16.toUInt32.toInt32)), .val (.int ((((p3.toUInt32 >>> ((8 : Int32) &&& 31).toUInt32).toInt32) &&& (255 : Int32)).toUInt32.toUInt16.toUInt32.toInt32)), .val (.ref x53), .val (.ref x55), .val .null]) rfl (XS.aload X55.here hx rfl (hb hby at_128) rfl rfl (XS.ifnullNo X55.here hx rfl (hb hby at_130) rfl (XS.aload X55.here hx rfl (hb hby at_133) rfl rfl (q))))))) ?_
        obtain ⟨a57, T57, h57, t57, kb57, X57, e57, E57, w57, sf57, Ea57, Ca57, Fa57, Va57, ns57, st57⟩ := own_ldcC X55 hx w56 hEL (hw _ (List.mem_of_getElem? (i := 0) rfl)) hSA rfl (by decide) (vs := [(.int (115 : Int32)), (.int (104 : Int32)), (.int (97 : Int32)), (.int (114 : Int32)), (.int (101 : Int32)), (.int (100 : Int32))]) (z := (6 : Int32)) (by decide) (by decide) rfl (pc := 135) (Ls := #[.val (.int p0), .val (.int p1), .val (.int p2), .val (.int p3), .val (.ref a2), .val (.int z3), .val (.int z4), .val (.int (p1 &&& (15 : Int32))), .val (.int (Int32.ofNat own_shared.length)), .val (.int ((p3 &&& (255 : Int32)).toUInt32.toUInt16.toUInt32.toInt32)), .val (.int ((((p3.toUInt32 >>> ((8 : Int32) &&& 31).toUInt32).toInt32) &&& (255 : Int32)).toUInt32.toUInt16.toUInt32.toInt32)), .val (.ref x53), .val (.ref x55), .val .null]) (stk := [(.ref x53)]) (hb hby at_135) (n := 24) (by decide) (by decide) (by decide) (by decide)
        refine own_stW (g' := (mkF m 137 #[.val (.int p0), .val (.int p1), .val (.int p2), .val (.int p3), .val (.ref a2), .val (.int z3), .val (.int z4), .val (.int (p1 &&& (15 : Int32))), .val (.int (Int32.ofNat own_shared.length)), .val (.int ((p3 &&& (255 : Int32)).toUInt32.toUInt16.toUInt32.toInt32)), .val (.int ((((p3.toUInt32 >>> ((8 : Int32) &&& 31).toUInt32).toInt32) &&& (255 : Int32)).toUInt32.toUInt16.toUInt32.toInt32)), .val (.ref x53), .val (.ref x55), .val .null] [(.ref a57), (.ref x53)])) st57 ?_
        have K58 : own_Bk l room_1 p e below (s.setVm T57.vm) #[(.int p0), (.int p1), (.int p2), (.int p3)] (⟨"java/lang/String", "equals", "(Ljava/lang/Object;)Z"⟩ : MethodName) 0 h57 #[(.ref x53), (.ref a57)] 0 0 (fun v h L => ((v = some (.int 1) ∧ cs53 = own_shared) ∨ (v = some (.int 0) ∧ ¬ cs53 = own_shared)) ∧ L = [] ∧ h = h57) := StrChars.Road.eqW (s := (s.setVm T57.vm)) (W := 0) w57.2.1 (own_heq hw) (kI := 4) (hw _ (List.mem_of_getElem? (i := 2) rfl)) ((E53.keep K55).ext E57) ((F53.keep K55 nin0).ext E57) ((Cd53.keep K55 nin0).ext E57) ((A53.keep K55 nin0).ext E57) cod53 hb53 l253 Ea57 Fa57 Ca57 Va57 own_codS own_hbS (by decide) (O.ext ((((X00.ext E2).keep K53 all0).keep K55 all0).ext E57).2) hz (by decide) (by decide)
        obtain ⟨v58, T58, hv58, X58, e58, st58⟩ := own_pureE (A := fun v => ((v = some (.int 1) ∧ cs53 = own_shared) ∨ (v = some (.int 0) ∧ ¬ cs53 = own_shared))) (own_cV X57 hx w57.2.1 w57.2.2.1 (hw _ (List.mem_of_getElem? (i := 109) rfl)) (hw _ (List.mem_of_getElem? (i := 96) rfl)) (notFace_of_selects (args := #[]) (mvT w57.2.1 (hw _ (List.mem_of_getElem? (i := 98) rfl)))) (hw _ (List.mem_of_getElem? (i := 98) rfl)) (hw _ (List.mem_of_getElem? (i := 97) rfl)) (by decide) e57 (h := h57) (b := x53) ((E53.keep K55).ext E57) (argsL := [(.ref a57)]) (rest := []) K58 (pc := 137) (Ls := #[.val (.int p0), .val (.int p1), .val (.int p2), .val (.int p3), .val (.ref a2), .val (.int z3), .val (.int z4), .val (.int (p1 &&& (15 : Int32))), .val (.int (Int32.ofNat own_shared.length)), .val (.int ((p3 &&& (255 : Int32)).toUInt32.toUInt16.toUInt32.toInt32)), .val (.int ((((p3.toUInt32 >>> ((8 : Int32) &&& 31).toUInt32).toInt32) &&& (255 : Int32)).toUInt32.toUInt16.toUInt32.toInt32)), .val (.ref x53), .val (.ref x55), .val .null]) (by rw [hml]; rfl) (lenOf own_pd8 rfl) rfl (Nat.le_of_eq rfl) (hb hby at_137) (by decide) (by decide))
        obtain ⟨r58, hr58, rfl⟩ := own_eq01 hv58
        refine own_stW (g' := (mkF m 140 #[.val (.int p0), .val (.int p1), .val (.int p2), .val (.int p3), .val (.ref a2), .val (.int z3), .val (.int z4), .val (.int (p1 &&& (15 : Int32))), .val (.int (Int32.ofNat own_shared.length)), .val (.int ((p3 &&& (255 : Int32)).toUInt32.toUInt16.toUInt32.toInt32)), .val (.int ((((p3.toUInt32 >>> ((8 : Int32) &&& 31).toUInt32).toInt32) &&& (255 : Int32)).toUInt32.toUInt16.toUInt32.toInt32)), .val (.ref x53), .val (.ref x55), .val .null] [(.int r58)])) st58 ?_
        by_cases hc59 : r58 = (0 : Int32)
        · -- r58 = (0 : Int32)
          refine own_stW (g' := (mkF m 153 #[.val (.int p0), .val (.int p1), .val (.int p2), .val (.int p3), .val (.ref a2), .val (.int z3), .val (.int z4), .val (.int (p1 &&& (15 : Int32))), .val (.int (Int32.ofNat own_shared.length)), .val (.int ((p3 &&& (255 : Int32)).toUInt32.toUInt16.toUInt32.toInt32)), .val (.int ((((p3.toUInt32 >>> ((8 : Int32) &&& 31).toUInt32).toInt32) &&& (255 : Int32)).toUInt32.toUInt16.toUInt32.toInt32)), .val (.ref x53), .val (.ref x55), .val .null] [(.ref x53)])) (fun _ q => XS.ifYes X58.here hx rfl (pc0 := 140) (pc' := 151) rfl (hb hby at_140) rfl ((if0 _ _).trans (teq hc59).1) (by decide) (by decide) (XS.aload X58.here hx rfl (hb hby at_151) rfl rfl (q))) ?_
          obtain ⟨a60, T60, h60, t60, kb60, X60, e60, E60, w60, sf60, Ea60, Ca60, Fa60, Va60, ns60, st60⟩ := own_ldcC X58 hx w57 hEL (hw _ (List.mem_of_getElem? (i := 110) rfl)) hSA e58 (by decide) (vs := [(.int (102 : Int32)), (.int (114 : Int32)), (.int (101 : Int32)), (.int (115 : Int32)), (.int (104 : Int32))]) (z := (5 : Int32)) (by decide) (by decide) rfl (pc := 153) (Ls := #[.val (.int p0), .val (.int p1), .val (.int p2), .val (.int p3), .val (.ref a2), .val (.int z3), .val (.int z4), .val (.int (p1 &&& (15 : Int32))), .val (.int (Int32.ofNat own_shared.length)), .val (.int ((p3 &&& (255 : Int32)).toUInt32.toUInt16.toUInt32.toInt32)), .val (.int ((((p3.toUInt32 >>> ((8 : Int32) &&& 31).toUInt32).toInt32) &&& (255 : Int32)).toUInt32.toUInt16.toUInt32.toInt32)), .val (.ref x53), .val (.ref x55), .val .null]) (stk := [(.ref x53)]) (hb hby at_153) (n := 20) (by decide) (by decide) (by decide) (by decide)
          refine own_stW (g' := (mkF m 155 #[.val (.int p0), .val (.int p1), .val (.int p2), .val (.int p3), .val (.ref a2), .val (.int z3), .val (.int z4), .val (.int (p1 &&& (15 : Int32))), .val (.int (Int32.ofNat own_shared.length)), .val (.int ((p3 &&& (255 : Int32)).toUInt32.toUInt16.toUInt32.toInt32)), .val (.int ((((p3.toUInt32 >>> ((8 : Int32) &&& 31).toUInt32).toInt32) &&& (255 : Int32)).toUInt32.toUInt16.toUInt32.toInt32)), .val (.ref x53), .val (.ref x55), .val .null] [(.ref a60), (.ref x53)])) st60 ?_
          have K61 : own_Bk l room_1 p e below (s.setVm T60.vm) #[(.int p0), (.int p1), (.int p2), (.int p3)] (⟨"java/lang/String", "equals", "(Ljava/lang/Object;)Z"⟩ : MethodName) 0 h60 #[(.ref x53), (.ref a60)] 0 0 (fun v h L => ((v = some (.int 1) ∧ cs53 = own_fresh) ∨ (v = some (.int 0) ∧ ¬ cs53 = own_fresh)) ∧ L = [] ∧ h = h60) := StrChars.Road.eqW (s := (s.setVm T60.vm)) (W := 0) w60.2.1 (own_heq hw) (kI := 4) (hw _ (List.mem_of_getElem? (i := 2) rfl)) (((E53.keep K55).ext E57).ext E60) (((F53.keep K55 nin0).ext E57).ext E60) (((Cd53.keep K55 nin0).ext E57).ext E60) (((A53.keep K55 nin0).ext E57).ext E60) cod53 hb53 l253 Ea60 Fa60 Ca60 Va60 own_codF own_hbF (by decide) (O.ext (((((X00.ext E2).keep K53 all0).keep K55 all0).ext E57).ext E60).2) hz (by decide) (by decide)
          obtain ⟨v61, T61, hv61, X61, e61, st61⟩ := own_pureE (A := fun v => ((v = some (.int 1) ∧ cs53 = own_fresh) ∨ (v = some (.int 0) ∧ ¬ cs53 = own_fresh))) (own_cV X60 hx w60.2.1 w60.2.2.1 (hw _ (List.mem_of_getElem? (i := 109) rfl)) (hw _ (List.mem_of_getElem? (i := 96) rfl)) (notFace_of_selects (args := #[]) (mvT w60.2.1 (hw _ (List.mem_of_getElem? (i := 98) rfl)))) (hw _ (List.mem_of_getElem? (i := 98) rfl)) (hw _ (List.mem_of_getElem? (i := 97) rfl)) (by decide) e60 (h := h60) (b := x53) (((E53.keep K55).ext E57).ext E60) (argsL := [(.ref a60)]) (rest := []) K61 (pc := 155) (Ls := #[.val (.int p0), .val (.int p1), .val (.int p2), .val (.int p3), .val (.ref a2), .val (.int z3), .val (.int z4), .val (.int (p1 &&& (15 : Int32))), .val (.int (Int32.ofNat own_shared.length)), .val (.int ((p3 &&& (255 : Int32)).toUInt32.toUInt16.toUInt32.toInt32)), .val (.int ((((p3.toUInt32 >>> ((8 : Int32) &&& 31).toUInt32).toInt32) &&& (255 : Int32)).toUInt32.toUInt16.toUInt32.toInt32)), .val (.ref x53), .val (.ref x55), .val .null]) (by rw [hml]; rfl) (lenOf own_pd8 rfl) rfl (Nat.le_of_eq rfl) (hb hby at_155) (by decide) (by decide))
          obtain ⟨r61, hr61, rfl⟩ := own_eq01 hv61
          refine own_stW (g' := (mkF m 158 #[.val (.int p0), .val (.int p1), .val (.int p2), .val (.int p3), .val (.ref a2), .val (.int z3), .val (.int z4), .val (.int (p1 &&& (15 : Int32))), .val (.int (Int32.ofNat own_shared.length)), .val (.int ((p3 &&& (255 : Int32)).toUInt32.toUInt16.toUInt32.toInt32)), .val (.int ((((p3.toUInt32 >>> ((8 : Int32) &&& 31).toUInt32).toInt32) &&& (255 : Int32)).toUInt32.toUInt16.toUInt32.toInt32)), .val (.ref x53), .val (.ref x55), .val .null] [(.int r61)])) st61 ?_
          by_cases hc62 : r61 = (0 : Int32)
          · -- r61 = (0 : Int32)
            refine own_stW (g' := (mkF m 173 #[.val (.int p0), .val (.int p1), .val (.int p2), .val (.int p3), .val (.ref a2), .val (.int z3), .val (.int z4), .val (.int (p1 &&& (15 : Int32))), .val (.int (Int32.ofNat own_shared.length)), .val (.int ((p3 &&& (255 : Int32)).toUInt32.toUInt16.toUInt32.toInt32)), .val (.int ((((p3.toUInt32 >>> ((8 : Int32) &&& 31).toUInt32).toInt32) &&& (255 : Int32)).toUInt32.toUInt16.toUInt32.toInt32)), .val (.ref x53), .val (.ref x55), .val .null] [(.ref x55)])) (fun _ q => XS.ifYes X61.here hx rfl (pc0 := 158) (pc' := 166) rfl (hb hby at_158) rfl ((if0 _ _).trans (teq hc62).1) (by decide) (by decide) (XS.aload X61.here hx rfl (hb hby at_166) rfl rfl (XS.ifnonnullNo X61.here hx rfl (hb hby at_168) rfl (XS.aload X61.here hx rfl (hb hby at_171) rfl rfl (q))))) ?_
            have Fo63 : Fld Z h60 x55 "java/util/Optional" "value" "Ljava/lang/Object;" .null := by have F := ((F55.ext E57).ext E60); rw [if_neg (fun q => own_r0 hr58 hc59 q.symm), if_neg (fun q => own_r0 hr61 hc62 q.symm)] at F; exact F
            obtain ⟨r64, hr64⟩ : ∃ z : Int32, z = own_f_isp0 := ⟨_, rfl⟩
            have K64 : own_Bk l room_1 p e below (s.setVm T60.vm) #[(.int p0), (.int p1), (.int p2), (.int p3)] (⟨"java/util/Optional", "isPresent", "()Z"⟩ : MethodName) 0 h60 #[(.ref x55)] 0 0 (fun v h L => v = some (.int r64) ∧ L = [] ∧ h = h60) := backOf (s := (s.setVm T60.vm)) (R := room_1) (W := 0) (Q := (fun v h L => v = some (.int r64) ∧ L = [] ∧ h = h60)) (rm := ({ frames := 0, cells := 0, slots := 0, locals := 0 } : Room)) (own_rm_isp0 l Z a0 hw [] x55 r64 h60 Fo63 (by rw [hr64])) w60.2.1 (hw _ (List.mem_of_getElem? (i := 115) rfl)) (hw _ (List.mem_of_getElem? (i := 106) rfl)) (by decide) (by decide)
            obtain ⟨T65, X65, e65, st65⟩ := own_pure (own_cV X61 hx w60.2.1 w60.2.2.1 (hw _ (List.mem_of_getElem? (i := 111) rfl)) (hw _ (List.mem_of_getElem? (i := 112) rfl)) (notFace_of_selects (args := #[]) (mvT w60.2.1 (hw _ (List.mem_of_getElem? (i := 114) rfl)))) (hw _ (List.mem_of_getElem? (i := 114) rfl)) (hw _ (List.mem_of_getElem? (i := 113) rfl)) (by decide) e61 (h := h60) (b := x55) ((E55.ext E57).ext E60) (argsL := []) (rest := []) K64 (pc := 173) (Ls := #[.val (.int p0), .val (.int p1), .val (.int p2), .val (.int p3), .val (.ref a2), .val (.int z3), .val (.int z4), .val (.int (p1 &&& (15 : Int32))), .val (.int (Int32.ofNat own_shared.length)), .val (.int ((p3 &&& (255 : Int32)).toUInt32.toUInt16.toUInt32.toInt32)), .val (.int ((((p3.toUInt32 >>> ((8 : Int32) &&& 31).toUInt32).toInt32) &&& (255 : Int32)).toUInt32.toUInt16.toUInt32.toInt32)), .val (.ref x53), .val (.ref x55), .val .null]) (by rw [hml]; rfl) (lenOf own_pd13 rfl) rfl (Nat.le_of_eq rfl) (hb hby at_173) (by decide) (by decide))
            refine own_stW (g' := (mkF m 176 #[.val (.int p0), .val (.int p1), .val (.int p2), .val (.int p3), .val (.ref a2), .val (.int z3), .val (.int z4), .val (.int (p1 &&& (15 : Int32))), .val (.int (Int32.ofNat own_shared.length)), .val (.int ((p3 &&& (255 : Int32)).toUInt32.toUInt16.toUInt32.toInt32)), .val (.int ((((p3.toUInt32 >>> ((8 : Int32) &&& 31).toUInt32).toInt32) &&& (255 : Int32)).toUInt32.toUInt16.toUInt32.toInt32)), .val (.ref x53), .val (.ref x55), .val .null] [(.int r64)])) st65 ?_
            refine own_stW (g' := (mkF m 184 #[.val (.int p0), .val (.int p1), .val (.int p2), .val (.int p3), .val (.ref a2), .val (.int z3), .val (.int z4), .val (.int (p1 &&& (15 : Int32))), .val (.int (Int32.ofNat own_shared.length)), .val (.int ((p3 &&& (255 : Int32)).toUInt32.toUInt16.toUInt32.toInt32)), .val (.int ((((p3.toUInt32 >>> ((8 : Int32) &&& 31).toUInt32).toInt32) &&& (255 : Int32)).toUInt32.toUInt16.toUInt32.toInt32)), .val (.ref x53), .val (.ref x55), .val .null] [(.int (1 : Int32))])) (fun _ q => XS.ifNo X65.here hx rfl (hb hby at_176) rfl ((if0 _ _).trans (teq (by rw [hr64]; decide)).2) (XS.iconst X65.here hx rfl (hb hby at_179) (XS.goto X65.here hx rfl (pc0 := 180) (pc' := 184) rfl (hb hby at_180) (by decide) (by decide) (q)))) ?_
            exact own_goWN X65 hh w60 hEL e65 hlk hx (t := .boolean) (by simp) Bd.returns (hb hby at_184) ⟨rfl, N55⟩ (by decide) (by decide)
          · -- not: r61 = (0 : Int32)
            refine own_stW (g' := (mkF m 161 #[.val (.int p0), .val (.int p1), .val (.int p2), .val (.int p3), .val (.ref a2), .val (.int z3), .val (.int z4), .val (.int (p1 &&& (15 : Int32))), .val (.int (Int32.ofNat own_shared.length)), .val (.int ((p3 &&& (255 : Int32)).toUInt32.toUInt16.toUInt32.toInt32)), .val (.int ((((p3.toUInt32 >>> ((8 : Int32) &&& 31).toUInt32).toInt32) &&& (255 : Int32)).toUInt32.toUInt16.toUInt32.toInt32)), .val (.ref x53), .val (.ref x55), .val .null] [])) (fun _ q => XS.ifNo X61.here hx rfl (hb hby at_158) rfl ((if0 _ _).trans (feq hc62).1) (q)) ?_
            obtain ⟨T66, X66, e66, st66⟩ := getS2 X61 hx w60.2.1 w60.2.2.1 (host := "") (Or.inl (hw _ (List.mem_of_getElem? (i := 132) rfl))) Via.refl e61 (OF_.ext (((((X00.ext E2).keep K53 all0).keep K55 all0).ext E57).ext E60).2) (g := (mkF m 161 #[.val (.int p0), .val (.int p1), .val (.int p2), .val (.int p3), .val (.ref a2), .val (.int z3), .val (.int z4), .val (.int (p1 &&& (15 : Int32))), .val (.int (Int32.ofNat own_shared.length)), .val (.int ((p3 &&& (255 : Int32)).toUInt32.toUInt16.toUInt32.toInt32)), .val (.int ((((p3.toUInt32 >>> ((8 : Int32) &&& 31).toUInt32).toInt32) &&& (255 : Int32)).toUInt32.toUInt16.toUInt32.toInt32)), .val (.ref x53), .val (.ref x55), .val .null] [])) rfl (hb hby at_161)
            refine own_stW (g' := (mkF m 164 #[.val (.int p0), .val (.int p1), .val (.int p2), .val (.int p3), .val (.ref a2), .val (.int z3), .val (.int z4), .val (.int (p1 &&& (15 : Int32))), .val (.int (Int32.ofNat own_shared.length)), .val (.int ((p3 &&& (255 : Int32)).toUInt32.toUInt16.toUInt32.toInt32)), .val (.int ((((p3.toUInt32 >>> ((8 : Int32) &&& 31).toUInt32).toInt32) &&& (255 : Int32)).toUInt32.toUInt16.toUInt32.toInt32)), .val (.ref x53), .val (.ref x55), .val .null] [(.ref aF)])) st66 ?_
            refine own_stW (g' := (mkF m 187 #[.val (.int p0), .val (.int p1), .val (.int p2), .val (.int p3), .val (.ref a2), .val (.int z3), .val (.int z4), .val (.int (p1 &&& (15 : Int32))), .val (.int (Int32.ofNat own_shared.length)), .val (.int ((p3 &&& (255 : Int32)).toUInt32.toUInt16.toUInt32.toInt32)), .val (.int ((((p3.toUInt32 >>> ((8 : Int32) &&& 31).toUInt32).toInt32) &&& (255 : Int32)).toUInt32.toUInt16.toUInt32.toInt32)), .val (.ref x53), .val (.ref x55), .val (.ref aF)] [(.ref x55)])) (fun _ q => XS.astore X66.here hx rfl (hb hby at_164) rfl rfl (l' := #[.val (.int p0), .val (.int p1), .val (.int p2), .val (.int p3), .val (.ref a2), .val (.int z3), .val (.int z4), .val (.int (p1 &&& (15 : Int32))), .val (.int (Int32.ofNat own_shared.length)), .val (.int ((p3 &&& (255 : Int32)).toUInt32.toUInt16.toUInt32.toInt32)), .val (.int ((((p3.toUInt32 >>> ((8 : Int32) &&& 31).toUInt32).toInt32) &&& (255 : Int32)).toUInt32.toUInt16.toUInt32.toInt32)), .val (.ref x53), .val (.ref x55), .val (.ref aF)]) rfl (XS.aload X66.here hx rfl (hb hby at_166) rfl rfl (XS.ifnonnullYes X66.here hx rfl (pc0 := 168) (pc' := 185) rfl (hb hby at_168) rfl (by decide) (by decide) (XS.aload X66.here hx rfl (hb hby at_185) rfl rfl (q))))) ?_
            have Fo67 : Fld Z h60 x55 "java/util/Optional" "value" "Ljava/lang/Object;" (.ref aF) := by have F := ((F55.ext E57).ext E60); rw [if_neg (fun q => own_r0 hr58 hc59 q.symm), if_pos (own_r1 hr61 hc62).symm] at F; exact F
            obtain ⟨r68, hr68⟩ : ∃ z : Int32, z = own_f_isp1 := ⟨_, rfl⟩
            have K68 : own_Bk l room_1 p e below (s.setVm T60.vm) #[(.int p0), (.int p1), (.int p2), (.int p3)] (⟨"java/util/Optional", "isPresent", "()Z"⟩ : MethodName) 0 h60 #[(.ref x55)] 0 0 (fun v h L => v = some (.int r68) ∧ L = [] ∧ h = h60) := backOf (s := (s.setVm T60.vm)) (R := room_1) (W := 0) (Q := (fun v h L => v = some (.int r68) ∧ L = [] ∧ h = h60)) (rm := ({ frames := 0, cells := 0, slots := 0, locals := 0 } : Room)) (own_rm_isp1 l Z a0 hw [] x55 aF r68 h60 Fo67 (by rw [hr68])) w60.2.1 (hw _ (List.mem_of_getElem? (i := 115) rfl)) (hw _ (List.mem_of_getElem? (i := 106) rfl)) (by decide) (by decide)
            obtain ⟨T69, X69, e69, st69⟩ := own_pure (own_cV X66 hx w60.2.1 w60.2.2.1 (hw _ (List.mem_of_getElem? (i := 111) rfl)) (hw _ (List.mem_of_getElem? (i := 112) rfl)) (notFace_of_selects (args := #[]) (mvT w60.2.1 (hw _ (List.mem_of_getElem? (i := 114) rfl)))) (hw _ (List.mem_of_getElem? (i := 114) rfl)) (hw _ (List.mem_of_getElem? (i := 113) rfl)) (by decide) e66 (h := h60) (b := x55) ((E55.ext E57).ext E60) (argsL := []) (rest := []) K68 (pc := 187) (Ls := #[.val (.int p0), .val (.int p1), .val (.int p2), .val (.int p3), .val (.ref a2), .val (.int z3), .val (.int z4), .val (.int (p1 &&& (15 : Int32))), .val (.int (Int32.ofNat own_shared.length)), .val (.int ((p3 &&& (255 : Int32)).toUInt32.toUInt16.toUInt32.toInt32)), .val (.int ((((p3.toUInt32 >>> ((8 : Int32) &&& 31).toUInt32).toInt32) &&& (255 : Int32)).toUInt32.toUInt16.toUInt32.toInt32)), .val (.ref x53), .val (.ref x55), .val (.ref aF)]) (by rw [hml]; rfl) (lenOf own_pd13 rfl) rfl (Nat.le_of_eq rfl) (hb hby at_187) (by decide) (by decide))
            refine own_stW (g' := (mkF m 190 #[.val (.int p0), .val (.int p1), .val (.int p2), .val (.int p3), .val (.ref a2), .val (.int z3), .val (.int z4), .val (.int (p1 &&& (15 : Int32))), .val (.int (Int32.ofNat own_shared.length)), .val (.int ((p3 &&& (255 : Int32)).toUInt32.toUInt16.toUInt32.toInt32)), .val (.int ((((p3.toUInt32 >>> ((8 : Int32) &&& 31).toUInt32).toInt32) &&& (255 : Int32)).toUInt32.toUInt16.toUInt32.toInt32)), .val (.ref x53), .val (.ref x55), .val (.ref aF)] [(.int r68)])) st69 ?_
            refine own_stW (g' := (mkF m 195 #[.val (.int p0), .val (.int p1), .val (.int p2), .val (.int p3), .val (.ref a2), .val (.int z3), .val (.int z4), .val (.int (p1 &&& (15 : Int32))), .val (.int (Int32.ofNat own_shared.length)), .val (.int ((p3 &&& (255 : Int32)).toUInt32.toUInt16.toUInt32.toInt32)), .val (.int ((((p3.toUInt32 >>> ((8 : Int32) &&& 31).toUInt32).toInt32) &&& (255 : Int32)).toUInt32.toUInt16.toUInt32.toInt32)), .val (.ref x53), .val (.ref x55), .val (.ref aF)] [(.ref x55)])) (fun _ q => XS.ifNo X69.here hx rfl (hb hby at_190) rfl ((if0 _ _).trans (feq (by rw [hr68]; decide)).1) (XS.aload X69.here hx rfl (hb hby at_193) rfl rfl (q))) ?_
            have Fo70 : Fld Z h60 x55 "java/util/Optional" "value" "Ljava/lang/Object;" (.ref aF) := by have F := ((F55.ext E57).ext E60); rw [if_neg (fun q => own_r0 hr58 hc59 q.symm), if_pos (own_r1 hr61 hc62).symm] at F; exact F
            have K71 : own_Bk l room_1 p e below (s.setVm T60.vm) #[(.int p0), (.int p1), (.int p2), (.int p3)] (⟨"java/util/Optional", "get", "()Ljava/lang/Object;"⟩ : MethodName) 0 h60 #[(.ref x55)] 0 0 (fun v h L => v = some (.ref aF) ∧ L = [] ∧ h = h60) := backOf (s := (s.setVm T60.vm)) (R := room_1) (W := 0) (Q := (fun v h L => v = some (.ref aF) ∧ L = [] ∧ h = h60)) (rm := ({ frames := 0, cells := 0, slots := 0, locals := 0 } : Room)) (own_rm_get l Z a0 hw [] x55 aF  h60 Fo70 ) w60.2.1 (hw _ (List.mem_of_getElem? (i := 137) rfl)) (hw _ (List.mem_of_getElem? (i := 106) rfl)) (by decide) (by decide)
            obtain ⟨T72, X72, e72, st72⟩ := own_pure (own_cV X69 hx w60.2.1 w60.2.2.1 (hw _ (List.mem_of_getElem? (i := 133) rfl)) (hw _ (List.mem_of_getElem? (i := 134) rfl)) (notFace_of_selects (args := #[]) (mvT w60.2.1 (hw _ (List.mem_of_getElem? (i := 136) rfl)))) (hw _ (List.mem_of_getElem? (i := 136) rfl)) (hw _ (List.mem_of_getElem? (i := 135) rfl)) (by decide) e69 (h := h60) (b := x55) ((E55.ext E57).ext E60) (argsL := []) (rest := []) K71 (pc := 195) (Ls := #[.val (.int p0), .val (.int p1), .val (.int p2), .val (.int p3), .val (.ref a2), .val (.int z3), .val (.int z4), .val (.int (p1 &&& (15 : Int32))), .val (.int (Int32.ofNat own_shared.length)), .val (.int ((p3 &&& (255 : Int32)).toUInt32.toUInt16.toUInt32.toInt32)), .val (.int ((((p3.toUInt32 >>> ((8 : Int32) &&& 31).toUInt32).toInt32) &&& (255 : Int32)).toUInt32.toUInt16.toUInt32.toInt32)), .val (.ref x53), .val (.ref x55), .val (.ref aF)]) (by rw [hml]; rfl) (lenOf own_pd14 rfl) rfl (Nat.le_of_eq rfl) (hb hby at_195) (by decide) (by decide))
            refine own_stW (g' := (mkF m 198 #[.val (.int p0), .val (.int p1), .val (.int p2), .val (.int p3), .val (.ref a2), .val (.int z3), .val (.int z4), .val (.int (p1 &&& (15 : Int32))), .val (.int (Int32.ofNat own_shared.length)), .val (.int ((p3 &&& (255 : Int32)).toUInt32.toUInt16.toUInt32.toInt32)), .val (.int ((((p3.toUInt32 >>> ((8 : Int32) &&& 31).toUInt32).toInt32) &&& (255 : Int32)).toUInt32.toUInt16.toUInt32.toInt32)), .val (.ref x53), .val (.ref x55), .val (.ref aF)] [(.ref aF)])) st72 ?_
            refine own_stW (g' := (mkF m 200 #[.val (.int p0), .val (.int p1), .val (.int p2), .val (.int p3), .val (.ref a2), .val (.int z3), .val (.int z4), .val (.int (p1 &&& (15 : Int32))), .val (.int (Int32.ofNat own_shared.length)), .val (.int ((p3 &&& (255 : Int32)).toUInt32.toUInt16.toUInt32.toInt32)), .val (.int ((((p3.toUInt32 >>> ((8 : Int32) &&& 31).toUInt32).toInt32) &&& (255 : Int32)).toUInt32.toUInt16.toUInt32.toInt32)), .val (.ref x53), .val (.ref x55), .val (.ref aF)] [(.ref aF), (.ref aF)])) (fun _ q => XS.aload X72.here hx rfl (hb hby at_198) rfl rfl (q)) ?_
            refine own_stW (g' := (mkF m 205 #[.val (.int p0), .val (.int p1), .val (.int p2), .val (.int p3), .val (.ref a2), .val (.int z3), .val (.int z4), .val (.int (p1 &&& (15 : Int32))), .val (.int (Int32.ofNat own_shared.length)), .val (.int ((p3 &&& (255 : Int32)).toUInt32.toUInt16.toUInt32.toInt32)), .val (.int ((((p3.toUInt32 >>> ((8 : Int32) &&& 31).toUInt32).toInt32) &&& (255 : Int32)).toUInt32.toUInt16.toUInt32.toInt32)), .val (.ref x53), .val (.ref x55), .val (.ref aF)] [(.ref aF)])) (fun _ q => Jvm.RoadKit.acmp (g := (mkF m 200 #[.val (.int p0), .val (.int p1), .val (.int p2), .val (.int p3), .val (.ref a2), .val (.int z3), .val (.int z4), .val (.int (p1 &&& (15 : Int32))), .val (.int (Int32.ofNat own_shared.length)), .val (.int ((p3 &&& (255 : Int32)).toUInt32.toUInt16.toUInt32.toInt32)), .val (.int ((((p3.toUInt32 >>> ((8 : Int32) &&& 31).toUInt32).toInt32) &&& (255 : Int32)).toUInt32.toUInt16.toUInt32.toInt32)), .val (.ref x53), .val (.ref x55), .val (.ref aF)] [(.ref aF), (.ref aF)])) X72 hx rfl rfl rfl (pc0 := 200) (pc' := 203) (same := true) rfl (hb hby at_200) rfl (decide_eq_true rfl) (by decide) (by decide) (XS.aload X72.here hx rfl (hb hby at_203) rfl rfl (q))) ?_
            have K73 : own_Bk l room_1 p e below (s.setVm T60.vm) #[(.int p0), (.int p1), (.int p2), (.int p3)] (⟨"org/proofstand/runner/VmMode", "word", "()Ljava/lang/String;"⟩ : MethodName) 0 h60 #[(.ref aF)] 0 0 (fun v h L => v = some (.ref wF) ∧ L = [] ∧ h = h60) := backOf (s := (s.setVm T60.vm)) (R := room_1) (W := 0) (Q := (fun v h L => v = some (.ref wF) ∧ L = [] ∧ h = h60)) (rm := ({ frames := 0, cells := 0, slots := 0, locals := 0 } : Room)) (own_rm_word l Z a0 hw [] aF wF  h60 (MF.ext (((((X00.ext E2).keep K53 all0).keep K55 all0).ext E57).ext E60).2) ) w60.2.1 (hw _ (List.mem_of_getElem? (i := 142) rfl)) (hw _ (List.mem_of_getElem? (i := 74) rfl)) (by decide) (by decide)
            obtain ⟨T74, X74, e74, st74⟩ := own_pure (own_cV X72 hx w60.2.1 w60.2.2.1 (hw _ (List.mem_of_getElem? (i := 138) rfl)) (hw _ (List.mem_of_getElem? (i := 139) rfl)) (notFace_of_selects (args := #[]) (mvT w60.2.1 (hw _ (List.mem_of_getElem? (i := 141) rfl)))) (hw _ (List.mem_of_getElem? (i := 141) rfl)) (hw _ (List.mem_of_getElem? (i := 140) rfl)) (by decide) e72 (h := h60) (b := aF) (EMF.ext (((((X00.ext E2).keep K53 all0).keep K55 all0).ext E57).ext E60).2) (argsL := []) (rest := []) K73 (pc := 205) (Ls := #[.val (.int p0), .val (.int p1), .val (.int p2), .val (.int p3), .val (.ref a2), .val (.int z3), .val (.int z4), .val (.int (p1 &&& (15 : Int32))), .val (.int (Int32.ofNat own_shared.length)), .val (.int ((p3 &&& (255 : Int32)).toUInt32.toUInt16.toUInt32.toInt32)), .val (.int ((((p3.toUInt32 >>> ((8 : Int32) &&& 31).toUInt32).toInt32) &&& (255 : Int32)).toUInt32.toUInt16.toUInt32.toInt32)), .val (.ref x53), .val (.ref x55), .val (.ref aF)]) (by rw [hml]; rfl) (lenOf own_pd15 rfl) rfl (Nat.le_of_eq rfl) (hb hby at_205) (by decide) (by decide))
            refine own_stW (g' := (mkF m 208 #[.val (.int p0), .val (.int p1), .val (.int p2), .val (.int p3), .val (.ref a2), .val (.int z3), .val (.int z4), .val (.int (p1 &&& (15 : Int32))), .val (.int (Int32.ofNat own_shared.length)), .val (.int ((p3 &&& (255 : Int32)).toUInt32.toUInt16.toUInt32.toInt32)), .val (.int ((((p3.toUInt32 >>> ((8 : Int32) &&& 31).toUInt32).toInt32) &&& (255 : Int32)).toUInt32.toUInt16.toUInt32.toInt32)), .val (.ref x53), .val (.ref x55), .val (.ref aF)] [(.ref wF)])) st74 ?_
            refine own_stW (g' := (mkF m 210 #[.val (.int p0), .val (.int p1), .val (.int p2), .val (.int p3), .val (.ref a2), .val (.int z3), .val (.int z4), .val (.int (p1 &&& (15 : Int32))), .val (.int (Int32.ofNat own_shared.length)), .val (.int ((p3 &&& (255 : Int32)).toUInt32.toUInt16.toUInt32.toInt32)), .val (.int ((((p3.toUInt32 >>> ((8 : Int32) &&& 31).toUInt32).toInt32) &&& (255 : Int32)).toUInt32.toUInt16.toUInt32.toInt32)), .val (.ref x53), .val (.ref x55), .val (.ref aF)] [(.ref x53), (.ref wF)])) (fun _ q => XS.aload X74.here hx rfl (hb hby at_208) rfl rfl (q)) ?_
            have K75 : own_Bk l room_1 p e below (s.setVm T60.vm) #[(.int p0), (.int p1), (.int p2), (.int p3)] (⟨"java/lang/String", "equals", "(Ljava/lang/Object;)Z"⟩ : MethodName) 0 h60 #[(.ref wF), (.ref x53)] 0 0 (fun v h L => ((v = some (.int 1) ∧ own_fresh = cs53) ∨ (v = some (.int 0) ∧ ¬ own_fresh = cs53)) ∧ L = [] ∧ h = h60) := StrChars.Road.eqW (s := (s.setVm T60.vm)) (W := 0) w60.2.1 (own_heq hw) (kI := 4) (hw _ (List.mem_of_getElem? (i := 2) rfl)) (EF.ext (((((X00.ext E2).keep K53 all0).keep K55 all0).ext E57).ext E60).2) (FF.ext (((((X00.ext E2).keep K53 all0).keep K55 all0).ext E57).ext E60).2) (CF.ext (((((X00.ext E2).keep K53 all0).keep K55 all0).ext E57).ext E60).2) (KF.ext (((((X00.ext E2).keep K53 all0).keep K55 all0).ext E57).ext E60).2) own_codF own_hbF (by decide) (((E53.keep K55).ext E57).ext E60) (((F53.keep K55 nin0).ext E57).ext E60) (((Cd53.keep K55 nin0).ext E57).ext E60) (((A53.keep K55 nin0).ext E57).ext E60) cod53 hb53 l253 (O.ext (((((X00.ext E2).keep K53 all0).keep K55 all0).ext E57).ext E60).2) hz (by decide) (by decide)
            obtain ⟨v75, T75, hv75, X75, e75, st75⟩ := own_pureE (A := fun v => ((v = some (.int 1) ∧ own_fresh = cs53) ∨ (v = some (.int 0) ∧ ¬ own_fresh = cs53))) (own_cV X74 hx w60.2.1 w60.2.2.1 (hw _ (List.mem_of_getElem? (i := 109) rfl)) (hw _ (List.mem_of_getElem? (i := 96) rfl)) (notFace_of_selects (args := #[]) (mvT w60.2.1 (hw _ (List.mem_of_getElem? (i := 98) rfl)))) (hw _ (List.mem_of_getElem? (i := 98) rfl)) (hw _ (List.mem_of_getElem? (i := 97) rfl)) (by decide) e74 (h := h60) (b := wF) (EF.ext (((((X00.ext E2).keep K53 all0).keep K55 all0).ext E57).ext E60).2) (argsL := [(.ref x53)]) (rest := []) K75 (pc := 210) (Ls := #[.val (.int p0), .val (.int p1), .val (.int p2), .val (.int p3), .val (.ref a2), .val (.int z3), .val (.int z4), .val (.int (p1 &&& (15 : Int32))), .val (.int (Int32.ofNat own_shared.length)), .val (.int ((p3 &&& (255 : Int32)).toUInt32.toUInt16.toUInt32.toInt32)), .val (.int ((((p3.toUInt32 >>> ((8 : Int32) &&& 31).toUInt32).toInt32) &&& (255 : Int32)).toUInt32.toUInt16.toUInt32.toInt32)), .val (.ref x53), .val (.ref x55), .val (.ref aF)]) (by rw [hml]; rfl) (lenOf own_pd8 rfl) rfl (Nat.le_of_eq rfl) (hb hby at_210) (by decide) (by decide))
            obtain ⟨r75, hr75, rfl⟩ := own_eq01 hv75
            refine own_stW (g' := (mkF m 213 #[.val (.int p0), .val (.int p1), .val (.int p2), .val (.int p3), .val (.ref a2), .val (.int z3), .val (.int z4), .val (.int (p1 &&& (15 : Int32))), .val (.int (Int32.ofNat own_shared.length)), .val (.int ((p3 &&& (255 : Int32)).toUInt32.toUInt16.toUInt32.toInt32)), .val (.int ((((p3.toUInt32 >>> ((8 : Int32) &&& 31).toUInt32).toInt32) &&& (255 : Int32)).toUInt32.toUInt16.toUInt32.toInt32)), .val (.ref x53), .val (.ref x55), .val (.ref aF)] [(.int r75)])) st75 ?_
            refine own_stW (g' := (mkF m 221 #[.val (.int p0), .val (.int p1), .val (.int p2), .val (.int p3), .val (.ref a2), .val (.int z3), .val (.int z4), .val (.int (p1 &&& (15 : Int32))), .val (.int (Int32.ofNat own_shared.length)), .val (.int ((p3 &&& (255 : Int32)).toUInt32.toUInt16.toUInt32.toInt32)), .val (.int ((((p3.toUInt32 >>> ((8 : Int32) &&& 31).toUInt32).toInt32) &&& (255 : Int32)).toUInt32.toUInt16.toUInt32.toInt32)), .val (.ref x53), .val (.ref x55), .val (.ref aF)] [(.int (1 : Int32))])) (fun _ q => XS.ifNo X75.here hx rfl (hb hby at_213) rfl ((if0 _ _).trans (feq (fun q => own_r0 hr75 q (own_r1 hr61 hc62).symm)).1) (XS.iconst X75.here hx rfl (hb hby at_216) (XS.goto X75.here hx rfl (pc0 := 217) (pc' := 221) rfl (hb hby at_217) (by decide) (by decide) (q)))) ?_
            exact own_goWN X75 hh w60 hEL e75 hlk hx (t := .boolean) (by simp) Bd.returns (hb hby at_221) ⟨rfl, N55⟩ (by decide) (by decide)
        · -- not: r58 = (0 : Int32)
          refine own_stW (g' := (mkF m 143 #[.val (.int p0), .val (.int p1), .val (.int p2), .val (.int p3), .val (.ref a2), .val (.int z3), .val (.int z4), .val (.int (p1 &&& (15 : Int32))), .val (.int (Int32.ofNat own_shared.length)), .val (.int ((p3 &&& (255 : Int32)).toUInt32.toUInt16.toUInt32.toInt32)), .val (.int ((((p3.toUInt32 >>> ((8 : Int32) &&& 31).toUInt32).toInt32) &&& (255 : Int32)).toUInt32.toUInt16.toUInt32.toInt32)), .val (.ref x53), .val (.ref x55), .val .null] [])) (fun _ q => XS.ifNo X58.here hx rfl (hb hby at_140) rfl ((if0 _ _).trans (feq hc59).1) (q)) ?_
          obtain ⟨T76, X76, e76, st76⟩ := getS2 X58 hx w57.2.1 w57.2.2.1 (host := "") (Or.inl (hw _ (List.mem_of_getElem? (i := 143) rfl))) Via.refl e58 (OS.ext ((((X00.ext E2).keep K53 all0).keep K55 all0).ext E57).2) (g := (mkF m 143 #[.val (.int p0), .val (.int p1), .val (.int p2), .val (.int p3), .val (.ref a2), .val (.int z3), .val (.int z4), .val (.int (p1 &&& (15 : Int32))), .val (.int (Int32.ofNat own_shared.length)), .val (.int ((p3 &&& (255 : Int32)).toUInt32.toUInt16.toUInt32.toInt32)), .val (.int ((((p3.toUInt32 >>> ((8 : Int32) &&& 31).toUInt32).toInt32) &&& (255 : Int32)).toUInt32.toUInt16.toUInt32.toInt32)), .val (.ref x53), .val (.ref x55), .val .null] [])) rfl (hb hby at_143)
          refine own_stW (g' := (mkF m 146 #[.val (.int p0), .val (.int p1), .val (.int p2), .val (.int p3), .val (.ref a2), .val (.int z3), .val (.int z4), .val (.int (p1 &&& (15 : Int32))), .val (.int (Int32.ofNat own_shared.length)), .val (.int ((p3 &&& (255 : Int32)).toUInt32.toUInt16.toUInt32.toInt32)), .val (.int ((((p3.toUInt32 >>> ((8 : Int32) &&& 31).toUInt32).toInt32) &&& (255 : Int32)).toUInt32.toUInt16.toUInt32.toInt32)), .val (.ref x53), .val (.ref x55), .val .null] [(.ref aS)])) st76 ?_
          refine own_stW (g' := (mkF m 187 #[.val (.int p0), .val (.int p1), .val (.int p2), .val (.int p3), .val (.ref a2), .val (.int z3), .val (.int z4), .val (.int (p1 &&& (15 : Int32))), .val (.int (Int32.ofNat own_shared.length)), .val (.int ((p3 &&& (255 : Int32)).toUInt32.toUInt16.toUInt32.toInt32)), .val (.int ((((p3.toUInt32 >>> ((8 : Int32) &&& 31).toUInt32).toInt32) &&& (255 : Int32)).toUInt32.toUInt16.toUInt32.toInt32)), .val (.ref x53), .val (.ref x55), .val (.ref aS)] [(.ref x55)])) (fun _ q => XS.astore X76.here hx rfl (hb hby at_146) rfl rfl (l' := #[.val (.int p0), .val (.int p1), .val (.int p2), .val (.int p3), .val (.ref a2), .val (.int z3), .val (.int z4), .val (.int (p1 &&& (15 : Int32))), .val (.int (Int32.ofNat own_shared.length)), .val (.int ((p3 &&& (255 : Int32)).toUInt32.toUInt16.toUInt32.toInt32)), .val (.int ((((p3.toUInt32 >>> ((8 : Int32) &&& 31).toUInt32).toInt32) &&& (255 : Int32)).toUInt32.toUInt16.toUInt32.toInt32)), .val (.ref x53), .val (.ref x55), .val (.ref aS)]) rfl (XS.goto X76.here hx rfl (pc0 := 148) (pc' := 166) rfl (hb hby at_148) (by decide) (by decide) (XS.aload X76.here hx rfl (hb hby at_166) rfl rfl (XS.ifnonnullYes X76.here hx rfl (pc0 := 168) (pc' := 185) rfl (hb hby at_168) rfl (by decide) (by decide) (XS.aload X76.here hx rfl (hb hby at_185) rfl rfl (q)))))) ?_
          have Fo77 : Fld Z h57 x55 "java/util/Optional" "value" "Ljava/lang/Object;" (.ref aS) := by have F := (F55.ext E57); rw [if_pos (own_r1 hr58 hc59).symm] at F; exact F
          obtain ⟨r78, hr78⟩ : ∃ z : Int32, z = own_f_isp1 := ⟨_, rfl⟩
          have K78 : own_Bk l room_1 p e below (s.setVm T57.vm) #[(.int p0), (.int p1), (.int p2), (.int p3)] (⟨"java/util/Optional", "isPresent", "()Z"⟩ : MethodName) 0 h57 #[(.ref x55)] 0 0 (fun v h L => v = some (.int r78) ∧ L = [] ∧ h = h57) := backOf (s := (s.setVm T57.vm)) (R := room_1) (W := 0) (Q := (fun v h L => v = some (.int r78) ∧ L = [] ∧ h = h57)) (rm := ({ frames := 0, cells := 0, slots := 0, locals := 0 } : Room)) (own_rm_isp1 l Z a0 hw [] x55 aS r78 h57 Fo77 (by rw [hr78])) w57.2.1 (hw _ (List.mem_of_getElem? (i := 115) rfl)) (hw _ (List.mem_of_getElem? (i := 106) rfl)) (by decide) (by decide)
          obtain ⟨T79, X79, e79, st79⟩ := own_pure (own_cV X76 hx w57.2.1 w57.2.2.1 (hw _ (List.mem_of_getElem? (i := 111) rfl)) (hw _ (List.mem_of_getElem? (i := 112) rfl)) (notFace_of_selects (args := #[]) (mvT w57.2.1 (hw _ (List.mem_of_getElem? (i := 114) rfl)))) (hw _ (List.mem_of_getElem? (i := 114) rfl)) (hw _ (List.mem_of_getElem? (i := 113) rfl)) (by decide) e76 (h := h57) (b := x55) (E55.ext E57) (argsL := []) (rest := []) K78 (pc := 187) (Ls := #[.val (.int p0), .val (.int p1), .val (.int p2), .val (.int p3), .val (.ref a2), .val (.int z3), .val (.int z4), .val (.int (p1 &&& (15 : Int32))), .val (.int (Int32.ofNat own_shared.length)), .val (.int ((p3 &&& (255 : Int32)).toUInt32.toUInt16.toUInt32.toInt32)), .val (.int ((((p3.toUInt32 >>> ((8 : Int32) &&& 31).toUInt32).toInt32) &&& (255 : Int32)).toUInt32.toUInt16.toUInt32.toInt32)), .val (.ref x53), .val (.ref x55), .val (.ref aS)]) (by rw [hml]; rfl) (lenOf own_pd13 rfl) rfl (Nat.le_of_eq rfl) (hb hby at_187) (by decide) (by decide))
          refine own_stW (g' := (mkF m 190 #[.val (.int p0), .val (.int p1), .val (.int p2), .val (.int p3), .val (.ref a2), .val (.int z3), .val (.int z4), .val (.int (p1 &&& (15 : Int32))), .val (.int (Int32.ofNat own_shared.length)), .val (.int ((p3 &&& (255 : Int32)).toUInt32.toUInt16.toUInt32.toInt32)), .val (.int ((((p3.toUInt32 >>> ((8 : Int32) &&& 31).toUInt32).toInt32) &&& (255 : Int32)).toUInt32.toUInt16.toUInt32.toInt32)), .val (.ref x53), .val (.ref x55), .val (.ref aS)] [(.int r78)])) st79 ?_
          refine own_stW (g' := (mkF m 195 #[.val (.int p0), .val (.int p1), .val (.int p2), .val (.int p3), .val (.ref a2), .val (.int z3), .val (.int z4), .val (.int (p1 &&& (15 : Int32))), .val (.int (Int32.ofNat own_shared.length)), .val (.int ((p3 &&& (255 : Int32)).toUInt32.toUInt16.toUInt32.toInt32)), .val (.int ((((p3.toUInt32 >>> ((8 : Int32) &&& 31).toUInt32).toInt32) &&& (255 : Int32)).toUInt32.toUInt16.toUInt32.toInt32)), .val (.ref x53), .val (.ref x55), .val (.ref aS)] [(.ref x55)])) (fun _ q => XS.ifNo X79.here hx rfl (hb hby at_190) rfl ((if0 _ _).trans (feq (by rw [hr78]; decide)).1) (XS.aload X79.here hx rfl (hb hby at_193) rfl rfl (q))) ?_
          have Fo80 : Fld Z h57 x55 "java/util/Optional" "value" "Ljava/lang/Object;" (.ref aS) := by have F := (F55.ext E57); rw [if_pos (own_r1 hr58 hc59).symm] at F; exact F
          have K81 : own_Bk l room_1 p e below (s.setVm T57.vm) #[(.int p0), (.int p1), (.int p2), (.int p3)] (⟨"java/util/Optional", "get", "()Ljava/lang/Object;"⟩ : MethodName) 0 h57 #[(.ref x55)] 0 0 (fun v h L => v = some (.ref aS) ∧ L = [] ∧ h = h57) := backOf (s := (s.setVm T57.vm)) (R := room_1) (W := 0) (Q := (fun v h L => v = some (.ref aS) ∧ L = [] ∧ h = h57)) (rm := ({ frames := 0, cells := 0, slots := 0, locals := 0 } : Room)) (own_rm_get l Z a0 hw [] x55 aS  h57 Fo80 ) w57.2.1 (hw _ (List.mem_of_getElem? (i := 137) rfl)) (hw _ (List.mem_of_getElem? (i := 106) rfl)) (by decide) (by decide)
          obtain ⟨T82, X82, e82, st82⟩ := own_pure (own_cV X79 hx w57.2.1 w57.2.2.1 (hw _ (List.mem_of_getElem? (i := 133) rfl)) (hw _ (List.mem_of_getElem? (i := 134) rfl)) (notFace_of_selects (args := #[]) (mvT w57.2.1 (hw _ (List.mem_of_getElem? (i := 136) rfl)))) (hw _ (List.mem_of_getElem? (i := 136) rfl)) (hw _ (List.mem_of_getElem? (i := 135) rfl)) (by decide) e79 (h := h57) (b := x55) (E55.ext E57) (argsL := []) (rest := []) K81 (pc := 195) (Ls := #[.val (.int p0), .val (.int p1), .val (.int p2), .val (.int p3), .val (.ref a2), .val (.int z3), .val (.int z4), .val (.int (p1 &&& (15 : Int32))), .val (.int (Int32.ofNat own_shared.length)), .val (.int ((p3 &&& (255 : Int32)).toUInt32.toUInt16.toUInt32.toInt32)), .val (.int ((((p3.toUInt32 >>> ((8 : Int32) &&& 31).toUInt32).toInt32) &&& (255 : Int32)).toUInt32.toUInt16.toUInt32.toInt32)), .val (.ref x53), .val (.ref x55), .val (.ref aS)]) (by rw [hml]; rfl) (lenOf own_pd14 rfl) rfl (Nat.le_of_eq rfl) (hb hby at_195) (by decide) (by decide))
          refine own_stW (g' := (mkF m 198 #[.val (.int p0), .val (.int p1), .val (.int p2), .val (.int p3), .val (.ref a2), .val (.int z3), .val (.int z4), .val (.int (p1 &&& (15 : Int32))), .val (.int (Int32.ofNat own_shared.length)), .val (.int ((p3 &&& (255 : Int32)).toUInt32.toUInt16.toUInt32.toInt32)), .val (.int ((((p3.toUInt32 >>> ((8 : Int32) &&& 31).toUInt32).toInt32) &&& (255 : Int32)).toUInt32.toUInt16.toUInt32.toInt32)), .val (.ref x53), .val (.ref x55), .val (.ref aS)] [(.ref aS)])) st82 ?_
          refine own_stW (g' := (mkF m 200 #[.val (.int p0), .val (.int p1), .val (.int p2), .val (.int p3), .val (.ref a2), .val (.int z3), .val (.int z4), .val (.int (p1 &&& (15 : Int32))), .val (.int (Int32.ofNat own_shared.length)), .val (.int ((p3 &&& (255 : Int32)).toUInt32.toUInt16.toUInt32.toInt32)), .val (.int ((((p3.toUInt32 >>> ((8 : Int32) &&& 31).toUInt32).toInt32) &&& (255 : Int32)).toUInt32.toUInt16.toUInt32.toInt32)), .val (.ref x53), .val (.ref x55), .val (.ref aS)] [(.ref aS), (.ref aS)])) (fun _ q => XS.aload X82.here hx rfl (hb hby at_198) rfl rfl (q)) ?_
          refine own_stW (g' := (mkF m 205 #[.val (.int p0), .val (.int p1), .val (.int p2), .val (.int p3), .val (.ref a2), .val (.int z3), .val (.int z4), .val (.int (p1 &&& (15 : Int32))), .val (.int (Int32.ofNat own_shared.length)), .val (.int ((p3 &&& (255 : Int32)).toUInt32.toUInt16.toUInt32.toInt32)), .val (.int ((((p3.toUInt32 >>> ((8 : Int32) &&& 31).toUInt32).toInt32) &&& (255 : Int32)).toUInt32.toUInt16.toUInt32.toInt32)), .val (.ref x53), .val (.ref x55), .val (.ref aS)] [(.ref aS)])) (fun _ q => Jvm.RoadKit.acmp (g := (mkF m 200 #[.val (.int p0), .val (.int p1), .val (.int p2), .val (.int p3), .val (.ref a2), .val (.int z3), .val (.int z4), .val (.int (p1 &&& (15 : Int32))), .val (.int (Int32.ofNat own_shared.length)), .val (.int ((p3 &&& (255 : Int32)).toUInt32.toUInt16.toUInt32.toInt32)), .val (.int ((((p3.toUInt32 >>> ((8 : Int32) &&& 31).toUInt32).toInt32) &&& (255 : Int32)).toUInt32.toUInt16.toUInt32.toInt32)), .val (.ref x53), .val (.ref x55), .val (.ref aS)] [(.ref aS), (.ref aS)])) X82 hx rfl rfl rfl (pc0 := 200) (pc' := 203) (same := true) rfl (hb hby at_200) rfl (decide_eq_true rfl) (by decide) (by decide) (XS.aload X82.here hx rfl (hb hby at_203) rfl rfl (q))) ?_
          have K83 : own_Bk l room_1 p e below (s.setVm T57.vm) #[(.int p0), (.int p1), (.int p2), (.int p3)] (⟨"org/proofstand/runner/VmMode", "word", "()Ljava/lang/String;"⟩ : MethodName) 0 h57 #[(.ref aS)] 0 0 (fun v h L => v = some (.ref wS) ∧ L = [] ∧ h = h57) := backOf (s := (s.setVm T57.vm)) (R := room_1) (W := 0) (Q := (fun v h L => v = some (.ref wS) ∧ L = [] ∧ h = h57)) (rm := ({ frames := 0, cells := 0, slots := 0, locals := 0 } : Room)) (own_rm_word l Z a0 hw [] aS wS  h57 (MS.ext ((((X00.ext E2).keep K53 all0).keep K55 all0).ext E57).2) ) w57.2.1 (hw _ (List.mem_of_getElem? (i := 142) rfl)) (hw _ (List.mem_of_getElem? (i := 74) rfl)) (by decide) (by decide)
          obtain ⟨T84, X84, e84, st84⟩ := own_pure (own_cV X82 hx w57.2.1 w57.2.2.1 (hw _ (List.mem_of_getElem? (i := 138) rfl)) (hw _ (List.mem_of_getElem? (i := 139) rfl)) (notFace_of_selects (args := #[]) (mvT w57.2.1 (hw _ (List.mem_of_getElem? (i := 141) rfl)))) (hw _ (List.mem_of_getElem? (i := 141) rfl)) (hw _ (List.mem_of_getElem? (i := 140) rfl)) (by decide) e82 (h := h57) (b := aS) (EMS.ext ((((X00.ext E2).keep K53 all0).keep K55 all0).ext E57).2) (argsL := []) (rest := []) K83 (pc := 205) (Ls := #[.val (.int p0), .val (.int p1), .val (.int p2), .val (.int p3), .val (.ref a2), .val (.int z3), .val (.int z4), .val (.int (p1 &&& (15 : Int32))), .val (.int (Int32.ofNat own_shared.length)), .val (.int ((p3 &&& (255 : Int32)).toUInt32.toUInt16.toUInt32.toInt32)), .val (.int ((((p3.toUInt32 >>> ((8 : Int32) &&& 31).toUInt32).toInt32) &&& (255 : Int32)).toUInt32.toUInt16.toUInt32.toInt32)), .val (.ref x53), .val (.ref x55), .val (.ref aS)]) (by rw [hml]; rfl) (lenOf own_pd15 rfl) rfl (Nat.le_of_eq rfl) (hb hby at_205) (by decide) (by decide))
          refine own_stW (g' := (mkF m 208 #[.val (.int p0), .val (.int p1), .val (.int p2), .val (.int p3), .val (.ref a2), .val (.int z3), .val (.int z4), .val (.int (p1 &&& (15 : Int32))), .val (.int (Int32.ofNat own_shared.length)), .val (.int ((p3 &&& (255 : Int32)).toUInt32.toUInt16.toUInt32.toInt32)), .val (.int ((((p3.toUInt32 >>> ((8 : Int32) &&& 31).toUInt32).toInt32) &&& (255 : Int32)).toUInt32.toUInt16.toUInt32.toInt32)), .val (.ref x53), .val (.ref x55), .val (.ref aS)] [(.ref wS)])) st84 ?_
          refine own_stW (g' := (mkF m 210 #[.val (.int p0), .val (.int p1), .val (.int p2), .val (.int p3), .val (.ref a2), .val (.int z3), .val (.int z4), .val (.int (p1 &&& (15 : Int32))), .val (.int (Int32.ofNat own_shared.length)), .val (.int ((p3 &&& (255 : Int32)).toUInt32.toUInt16.toUInt32.toInt32)), .val (.int ((((p3.toUInt32 >>> ((8 : Int32) &&& 31).toUInt32).toInt32) &&& (255 : Int32)).toUInt32.toUInt16.toUInt32.toInt32)), .val (.ref x53), .val (.ref x55), .val (.ref aS)] [(.ref x53), (.ref wS)])) (fun _ q => XS.aload X84.here hx rfl (hb hby at_208) rfl rfl (q)) ?_
          have K85 : own_Bk l room_1 p e below (s.setVm T57.vm) #[(.int p0), (.int p1), (.int p2), (.int p3)] (⟨"java/lang/String", "equals", "(Ljava/lang/Object;)Z"⟩ : MethodName) 0 h57 #[(.ref wS), (.ref x53)] 0 0 (fun v h L => ((v = some (.int 1) ∧ own_shared = cs53) ∨ (v = some (.int 0) ∧ ¬ own_shared = cs53)) ∧ L = [] ∧ h = h57) := StrChars.Road.eqW (s := (s.setVm T57.vm)) (W := 0) w57.2.1 (own_heq hw) (kI := 4) (hw _ (List.mem_of_getElem? (i := 2) rfl)) (ES.ext ((((X00.ext E2).keep K53 all0).keep K55 all0).ext E57).2) (FS.ext ((((X00.ext E2).keep K53 all0).keep K55 all0).ext E57).2) (CS.ext ((((X00.ext E2).keep K53 all0).keep K55 all0).ext E57).2) (KS.ext ((((X00.ext E2).keep K53 all0).keep K55 all0).ext E57).2) own_codS own_hbS (by decide) ((E53.keep K55).ext E57) ((F53.keep K55 nin0).ext E57) ((Cd53.keep K55 nin0).ext E57) ((A53.keep K55 nin0).ext E57) cod53 hb53 l253 (O.ext ((((X00.ext E2).keep K53 all0).keep K55 all0).ext E57).2) hz (by decide) (by decide)
          obtain ⟨v85, T85, hv85, X85, e85, st85⟩ := own_pureE (A := fun v => ((v = some (.int 1) ∧ own_shared = cs53) ∨ (v = some (.int 0) ∧ ¬ own_shared = cs53))) (own_cV X84 hx w57.2.1 w57.2.2.1 (hw _ (List.mem_of_getElem? (i := 109) rfl)) (hw _ (List.mem_of_getElem? (i := 96) rfl)) (notFace_of_selects (args := #[]) (mvT w57.2.1 (hw _ (List.mem_of_getElem? (i := 98) rfl)))) (hw _ (List.mem_of_getElem? (i := 98) rfl)) (hw _ (List.mem_of_getElem? (i := 97) rfl)) (by decide) e84 (h := h57) (b := wS) (ES.ext ((((X00.ext E2).keep K53 all0).keep K55 all0).ext E57).2) (argsL := [(.ref x53)]) (rest := []) K85 (pc := 210) (Ls := #[.val (.int p0), .val (.int p1), .val (.int p2), .val (.int p3), .val (.ref a2), .val (.int z3), .val (.int z4), .val (.int (p1 &&& (15 : Int32))), .val (.int (Int32.ofNat own_shared.length)), .val (.int ((p3 &&& (255 : Int32)).toUInt32.toUInt16.toUInt32.toInt32)), .val (.int ((((p3.toUInt32 >>> ((8 : Int32) &&& 31).toUInt32).toInt32) &&& (255 : Int32)).toUInt32.toUInt16.toUInt32.toInt32)), .val (.ref x53), .val (.ref x55), .val (.ref aS)]) (by rw [hml]; rfl) (lenOf own_pd8 rfl) rfl (Nat.le_of_eq rfl) (hb hby at_210) (by decide) (by decide))
          obtain ⟨r85, hr85, rfl⟩ := own_eq01 hv85
          refine own_stW (g' := (mkF m 213 #[.val (.int p0), .val (.int p1), .val (.int p2), .val (.int p3), .val (.ref a2), .val (.int z3), .val (.int z4), .val (.int (p1 &&& (15 : Int32))), .val (.int (Int32.ofNat own_shared.length)), .val (.int ((p3 &&& (255 : Int32)).toUInt32.toUInt16.toUInt32.toInt32)), .val (.int ((((p3.toUInt32 >>> ((8 : Int32) &&& 31).toUInt32).toInt32) &&& (255 : Int32)).toUInt32.toUInt16.toUInt32.toInt32)), .val (.ref x53), .val (.ref x55), .val (.ref aS)] [(.int r85)])) st85 ?_
          refine own_stW (g' := (mkF m 221 #[.val (.int p0), .val (.int p1), .val (.int p2), .val (.int p3), .val (.ref a2), .val (.int z3), .val (.int z4), .val (.int (p1 &&& (15 : Int32))), .val (.int (Int32.ofNat own_shared.length)), .val (.int ((p3 &&& (255 : Int32)).toUInt32.toUInt16.toUInt32.toInt32)), .val (.int ((((p3.toUInt32 >>> ((8 : Int32) &&& 31).toUInt32).toInt32) &&& (255 : Int32)).toUInt32.toUInt16.toUInt32.toInt32)), .val (.ref x53), .val (.ref x55), .val (.ref aS)] [(.int (1 : Int32))])) (fun _ q => XS.ifNo X85.here hx rfl (hb hby at_213) rfl ((if0 _ _).trans (feq (fun q => own_r0 hr85 q (own_r1 hr58 hc59).symm)).1) (XS.iconst X85.here hx rfl (hb hby at_216) (XS.goto X85.here hx rfl (pc0 := 217) (pc' := 221) rfl (hb hby at_217) (by decide) (by decide) (q)))) ?_
          exact own_goWN X85 hh w57 hEL e85 hlk hx (t := .boolean) (by simp) Bd.returns (hb hby at_221) ⟨rfl, N55⟩ (by decide) (by decide)
      · -- not: z4 = (0 : Int32)
        refine own_stW (g' := (mkF m 120 #[.val (.int p0), .val (.int p1), .val (.int p2), .val (.int p3), .val (.ref a2), .val (.int z3), .val (.int z4), .val (.int (p1 &&& (15 : Int32))), .val (.int (Int32.ofNat own_shared.length)), .val (.int ((p3 &&& (255 : Int32)).toUInt32.toUInt16.toUInt32.toInt32)), .val (.int ((((p3.toUInt32 >>> ((8 : Int32) &&& 31).toUInt32).toInt32) &&& (255 : Int32)).toUInt32.toUInt16.toUInt32.toInt32)), .val .null, .unset, .unset] [.null])) (fun _ q => XS.ifNo X49.here hx rfl (hb hby at_92) rfl ((if0 _ _).trans (feq hc50).1) (XS.aconstNull X49.here hx rfl (hb hby at_95) (XS.goto X49.here hx rfl (pc0 := 96) (pc' := 116) rfl (hb hby at_96) (by decide) (by decide) (XS.astore X49.here hx rfl (hb hby at_116) rfl rfl (l' := #[.val (.int p0), .val (.int p1), .val (.int p2), .val (.int p3), .val (.ref a2), .val (.int z3), .val (.int z4), .val (.int (p1 &&& (15 : Int32))), .val (.int (Int32.ofNat own_shared.length)), .val (.int ((p3 &&& (255 : Int32)).toUInt32.toUInt16.toUInt32.toInt32)), .val (.int ((((p3.toUInt32 >>> ((8 : Int32) &&& 31).toUInt32).toInt32) &&& (255 : Int32)).toUInt32.toUInt16.toUInt32.toInt32)), .val .null, .unset, .unset]) rfl (XS.aload X49.here hx rfl (hb hby at_118) rfl rfl (q)))))) ?_
        have K86 : own_Bk l room_1 p e below (s.setVm T2.vm) #[(.int p0), (.int p1), (.int p2), (.int p3)] (⟨"org/proofstand/runner/VmMode", "named", "(Ljava/lang/String;)Ljava/util/Optional;"⟩ : MethodName) 0 h2 #[.null] 1 2 (own_Q_namedN Z aV aS aF aE wS tS wF tF kv kS kF z n0 h2) := backOf (s := (s.setVm T2.vm)) (R := room_1) (W := 0) (Q := (own_Q_namedN Z aV aS aF aE wS tS wF tF kv kS kF z n0 h2)) (rm := ({ frames := 2, cells := 1, slots := 2, locals := 25 } : Room)) (own_rm_namedN l Z a0 hw [] aV aS aF aE wS tS wF tF kv kS kF z n0 h2 (Nat.le_trans Z0 E2.1) (X00.ext E2) O hz OV VV EV OE EE FE ES FS CS KS MS EMS EF FF CF KF MF EMF) w2.2.1 (hw _ (List.mem_of_getElem? (i := 75) rfl)) (hw _ (List.mem_of_getElem? (i := 74) rfl)) (by decide) (by decide)
        obtain ⟨_, L87, T87, X87, ⟨N87q, K87, x87, rfl, E87, F87⟩, st87⟩ := own_cS X49 hx w2.2.1 w2.2.2.1 (hw _ (List.mem_of_getElem? (i := 72) rfl)) (hw _ (List.mem_of_getElem? (i := 73) rfl)) (hw _ (List.mem_of_getElem? (i := 74) rfl)) (hw _ (List.mem_of_getElem? (i := 75) rfl)) (by decide) e49 (h := h2) (argsL := [.null]) (rest := []) K86 (pc := 120) (Ls := #[.val (.int p0), .val (.int p1), .val (.int p2), .val (.int p3), .val (.ref a2), .val (.int z3), .val (.int z4), .val (.int (p1 &&& (15 : Int32))), .val (.int (Int32.ofNat own_shared.length)), .val (.int ((p3 &&& (255 : Int32)).toUInt32.toUInt16.toUInt32.toInt32)), .val (.int ((((p3.toUInt32 >>> ((8 : Int32) &&& 31).toUInt32).toInt32) &&& (255 : Int32)).toUInt32.toUInt16.toUInt32.toInt32)), .val .null, .unset, .unset]) (by rw [hml]; rfl) (lenOf own_pd12 rfl) rfl (Nat.le_of_eq rfl) (hb hby at_120) (by decide) (by decide)
        have N87 := Fr.app N0 N87q
        have w88 := w2.keep K87 sf0
        refine own_stW (g' := (mkF m 123 #[.val (.int p0), .val (.int p1), .val (.int p2), .val (.int p3), .val (.ref a2), .val (.int z3), .val (.int z4), .val (.int (p1 &&& (15 : Int32))), .val (.int (Int32.ofNat own_shared.length)), .val (.int ((p3 &&& (255 : Int32)).toUInt32.toUInt16.toUInt32.toInt32)), .val (.int ((((p3.toUInt32 >>> ((8 : Int32) &&& 31).toUInt32).toInt32) &&& (255 : Int32)).toUInt32.toUInt16.toUInt32.toInt32)), .val .null, .unset, .unset] [(.ref x87)])) st87 ?_
        refine own_stW (g' := (mkF m 173 #[.val (.int p0), .val (.int p1), .val (.int p2), .val (.int p3), .val (.ref a2), .val (.int z3), .val (.int z4), .val (.int (p1 &&& (15 : Int32))), .val (.int (Int32.ofNat own_shared.length)), .val (.int ((p3 &&& (255 : Int32)).toUInt32.toUInt16.toUInt32.toInt32)), .val (.int ((((p3.toUInt32 >>> ((8 : Int32) &&& 31).toUInt32).toInt32) &&& (255 : Int32)).toUInt32.toUInt16.toUInt32.toInt32)), .val .null, .val (.ref x87), .val .null] [(.ref x87)])) (fun _ q => XS.astore X87.here hx rfl (hb hby at_123) rfl rfl (l' := #[.val (.int p0), .val (.int p1), .val (.int p2), .val (.int p3), .val (.ref a2), .val (.int z3), .val (.int z4), .val (.int (p1 &&& (15 : Int32))), .val (.int (Int32.ofNat own_shared.length)), .val (.int ((p3 &&& (255 : Int32)).toUInt32.toUInt16.toUInt32.toInt32)), .val (.int ((((p3.toUInt32 >>> ((8 : Int32) &&& 31).toUInt32).toInt32) &&& (255 : Int32)).toUInt32.toUInt16.toUInt32.toInt32)), .val .null, .val (.ref x87), .unset]) rfl (XS.aconstNull X87.here hx rfl (hb hby at_125) (XS.astore X87.here hx rfl (hb hby at_126) rfl rfl (l' := #[.val (.int p0), .val (.int p1), .val (.int p2), .val (.int p3), .val (.ref a2), .val (.int z3), .val (.int z4), .val (.int (p1 &&& (15 : Int32))), .val (.int (Int32.ofNat own_shared.length)), .val (.int ((p3 &&& (255 : Int32)).toUInt32.toUInt16.toUInt32.toInt32)), .val (.int ((((p3.toUInt32 >>> ((8 : Int32) &&& 31).toUInt32).toInt32) &&& (255 : Int32)).toUInt32.toUInt16.toUInt32.toInt32)), .val .null, .val (.ref x87), .val .null]) rfl (XS.aload X87.here hx rfl (hb hby at_128) rfl rfl (XS.ifnullYes X87.here hx rfl (pc0 := 130) (pc' := 166) rfl (hb hby at_130) rfl (by decide) (by decide) (XS.aload X87.here hx rfl (hb hby at_166) rfl rfl (XS.ifnonnullNo X87.here hx rfl (hb hby at_168) rfl (XS.aload X87.here hx rfl (hb hby at_171) rfl rfl (q))))))))) ?_
        obtain ⟨r90, hr90⟩ : ∃ z : Int32, z = own_f_isp0 := ⟨_, rfl⟩
        have K90 : own_Bk l room_1 p e below (s.setVm T2.vm) #[(.int p0), (.int p1), (.int p2), (.int p3)] (⟨"java/util/Optional", "isPresent", "()Z"⟩ : MethodName) 0 T87.heap #[(.ref x87)] 0 0 (fun v h L => v = some (.int r90) ∧ L = [] ∧ h = T87.heap) := backOf (s := (s.setVm T2.vm)) (R := room_1) (W := 0) (Q := (fun v h L => v = some (.int r90) ∧ L = [] ∧ h = T87.heap)) (rm := ({ frames := 0, cells := 0, slots := 0, locals := 0 } : Room)) (own_rm_isp0 l Z a0 hw [] x87 r90 T87.heap F87 (by rw [hr90])) w88.2.1 (hw _ (List.mem_of_getElem? (i := 115) rfl)) (hw _ (List.mem_of_getElem? (i := 106) rfl)) (by decide) (by decide)
        obtain ⟨T91, X91, e91, st91⟩ := own_pure (own_cV X87 hx w88.2.1 w88.2.2.1 (hw _ (List.mem_of_getElem? (i := 111) rfl)) (hw _ (List.mem_of_getElem? (i := 112) rfl)) (notFace_of_selects (args := #[]) (mvT w88.2.1 (hw _ (List.mem_of_getElem? (i := 114) rfl)))) (hw _ (List.mem_of_getElem? (i := 114) rfl)) (hw _ (List.mem_of_getElem? (i := 113) rfl)) (by decide) rfl (h := T87.heap) (b := x87) E87 (argsL := []) (rest := []) K90 (pc := 173) (Ls := #[.val (.int p0), .val (.int p1), .val (.int p2), .val (.int p3), .val (.ref a2), .val (.int z3), .val (.int z4), .val (.int (p1 &&& (15 : Int32))), .val (.int (Int32.ofNat own_shared.length)), .val (.int ((p3 &&& (255 : Int32)).toUInt32.toUInt16.toUInt32.toInt32)), .val (.int ((((p3.toUInt32 >>> ((8 : Int32) &&& 31).toUInt32).toInt32) &&& (255 : Int32)).toUInt32.toUInt16.toUInt32.toInt32)), .val .null, .val (.ref x87), .val .null]) (by rw [hml]; rfl) (lenOf own_pd13 rfl) rfl (Nat.le_of_eq rfl) (hb hby at_173) (by decide) (by decide))
        refine own_stW (g' := (mkF m 176 #[.val (.int p0), .val (.int p1), .val (.int p2), .val (.int p3), .val (.ref a2), .val (.int z3), .val (.int z4), .val (.int (p1 &&& (15 : Int32))), .val (.int (Int32.ofNat own_shared.length)), .val (.int ((p3 &&& (255 : Int32)).toUInt32.toUInt16.toUInt32.toInt32)), .val (.int ((((p3.toUInt32 >>> ((8 : Int32) &&& 31).toUInt32).toInt32) &&& (255 : Int32)).toUInt32.toUInt16.toUInt32.toInt32)), .val .null, .val (.ref x87), .val .null] [(.int r90)])) st91 ?_
        refine own_stW (g' := (mkF m 184 #[.val (.int p0), .val (.int p1), .val (.int p2), .val (.int p3), .val (.ref a2), .val (.int z3), .val (.int z4), .val (.int (p1 &&& (15 : Int32))), .val (.int (Int32.ofNat own_shared.length)), .val (.int ((p3 &&& (255 : Int32)).toUInt32.toUInt16.toUInt32.toInt32)), .val (.int ((((p3.toUInt32 >>> ((8 : Int32) &&& 31).toUInt32).toInt32) &&& (255 : Int32)).toUInt32.toUInt16.toUInt32.toInt32)), .val .null, .val (.ref x87), .val .null] [(.int (1 : Int32))])) (fun _ q => XS.ifNo X91.here hx rfl (hb hby at_176) rfl ((if0 _ _).trans (teq (by rw [hr90]; decide)).2) (XS.iconst X91.here hx rfl (hb hby at_179) (XS.goto X91.here hx rfl (pc0 := 180) (pc' := 184) rfl (hb hby at_180) (by decide) (by decide) (q)))) ?_
        exact own_goWN X91 hh w88 hEL e91 hlk hx (t := .boolean) (by simp) Bd.returns (hb hby at_184) ⟨rfl, N87⟩ (by decide) (by decide)
  · -- not: (p0 &&& (1 : Int32)) = (0 : Int32)
    refine own_stW (g' := (mkF m 11 #[.val (.int p0), .val (.int p1), .val (.int p2), .val (.int p3), .unset, .unset, .unset, .unset, .unset, .unset, .unset, .unset, .unset, .unset] [])) (fun _ q => XS.ifYes X0.here hx rfl (pc0 := 3) (pc' := 11) rfl (hb hby at_3) rfl ((if0 _ _).trans (feq hc1).2) (by decide) (by decide) (q)) ?_
    obtain ⟨a92, T92, h92, t92, kb92, X92, e92, E92, w92, sf92, Ea92, Ca92, Fa92, Va92, ns92, st92⟩ := own_ldcC X0 hx W0 hEL (hw _ (List.mem_of_getElem? (i := 110) rfl)) hSA e0 (by decide) (vs := [(.int (102 : Int32)), (.int (114 : Int32)), (.int (101 : Int32)), (.int (115 : Int32)), (.int (104 : Int32))]) (z := (5 : Int32)) (by decide) (by decide) rfl (pc := 11) (Ls := #[.val (.int p0), .val (.int p1), .val (.int p2), .val (.int p3), .unset, .unset, .unset, .unset, .unset, .unset, .unset, .unset, .unset, .unset]) (stk := []) (hb hby at_11) (n := 20) (by decide) (by decide) (by decide) (by decide)
    refine own_stW (g' := (mkF m 13 #[.val (.int p0), .val (.int p1), .val (.int p2), .val (.int p3), .unset, .unset, .unset, .unset, .unset, .unset, .unset, .unset, .unset, .unset] [(.ref a92)])) st92 ?_
    refine own_stW (g' := (mkF m 20 #[.val (.int p0), .val (.int p1), .val (.int p2), .val (.int p3), .val (.ref a92), .unset, .unset, .unset, .unset, .unset, .unset, .unset, .unset, .unset] [(.int (((p0.toUInt32 >>> ((1 : Int32) &&& 31).toUInt32).toInt32) &&& (1 : Int32)))])) (fun _ q => XS.astore X92.here hx rfl (hb hby at_13) rfl rfl (l' := #[.val (.int p0), .val (.int p1), .val (.int p2), .val (.int p3), .val (.ref a92), .unset, .unset, .unset, .unset, .unset, .unset, .unset, .unset, .unset]) rfl (XS.iloadN X92.here hx rfl (hb hby at_15) rfl (XS.iconst X92.here hx rfl (hb hby at_16) (XS.iushr X92.here hx rfl (hb hby at_17) rfl (XS.iconst X92.here hx rfl (hb hby at_18) (XS.iand X92.here hx rfl (hb hby at_19) rfl (q))))))) ?_
    obtain ⟨_, _, ⟨rfl, z93, hz93, rfl⟩, st93⟩ : own_Re p e below (fun T' g' => T92 = T' ∧ ∃ z : Int32, z = (if (((p0.toUInt32 >>> ((1 : Int32) &&& 31).toUInt32).toInt32) &&& (1 : Int32)) = (0 : Int32) then (0 : Int32) else (1 : Int32)) ∧ g' = (mkF m 28 #[.val (.int p0), .val (.int p1), .val (.int p2), .val (.int p3), .val (.ref a92), .unset, .unset, .unset, .unset, .unset, .unset, .unset, .unset, .unset] [(.int z)])) T92 (mkF m 20 #[.val (.int p0), .val (.int p1), .val (.int p2), .val (.int p3), .val (.ref a92), .unset, .unset, .unset, .unset, .unset, .unset, .unset, .unset, .unset] [(.int (((p0.toUInt32 >>> ((1 : Int32) &&& 31).toUInt32).toInt32) &&& (1 : Int32)))]) := by
      by_cases hc93 : (((p0.toUInt32 >>> ((1 : Int32) &&& 31).toUInt32).toInt32) &&& (1 : Int32)) = (0 : Int32)
      · skip
        refine own_stR (g' := (mkF m 28 #[.val (.int p0), .val (.int p1), .val (.int p2), .val (.int p3), .val (.ref a92), .unset, .unset, .unset, .unset, .unset, .unset, .unset, .unset, .unset] [(.int (0 : Int32))])) (fun _ q => XS.ifYes X92.here hx rfl (pc0 := 20) (pc' := 27) rfl (hb hby at_20) rfl ((if0 _ _).trans (teq hc93).1) (by decide) (by decide) (XS.iconst X92.here hx rfl (hb hby at_27) (q))) ?_
        exact own_reI ⟨rfl, _, (if_pos hc93).symm, rfl⟩
      · skip
        refine own_stR (g' := (mkF m 28 #[.val (.int p0), .val (.int p1), .val (.int p2), .val (.int p3), .val (.ref a92), .unset, .unset, .unset, .unset, .unset, .unset, .unset, .unset, .unset] [(.int (1 : Int32))])) (fun _ q => XS.ifNo X92.here hx rfl (hb hby at_20) rfl ((if0 _ _).trans (feq hc93).1) (XS.iconst X92.here hx rfl (hb hby at_23) (XS.goto X92.here hx rfl (pc0 := 24) (pc' := 28) rfl (hb hby at_24) (by decide) (by decide) (q)))) ?_
        exact own_reI ⟨rfl, _, (if_neg hc93).symm, rfl⟩
    refine own_stW (g' := (mkF m 28 #[.val (.int p0), .val (.int p1), .val (.int p2), .val (.int p3), .val (.ref a92), .unset, .unset, .unset, .unset, .unset, .unset, .unset, .unset, .unset] [(.int z93)])) st93 ?_
    refine own_stW (g' := (mkF m 36 #[.val (.int p0), .val (.int p1), .val (.int p2), .val (.int p3), .val (.ref a92), .val (.int z93), .unset, .unset, .unset, .unset, .unset, .unset, .unset, .unset] [(.int (3 : Int32)), (.int (((p0.toUInt32 >>> ((2 : Int32) &&& 31).toUInt32).toInt32) &&& (3 : Int32)))])) (fun _ q => XS.istore X92.here hx rfl (hb hby at_28) rfl (l' := #[.val (.int p0), .val (.int p1), .val (.int p2), .val (.int p3), .val (.ref a92), .val (.int z93), .unset, .unset, .unset, .unset, .unset, .unset, .unset, .unset]) rfl (XS.iloadN X92.here hx rfl (hb hby at_30) rfl (XS.iconst X92.here hx rfl (hb hby at_31) (XS.iushr X92.here hx rfl (hb hby at_32) rfl (XS.iconst X92.here hx rfl (hb hby at_33) (XS.iand X92.here hx rfl (hb hby at_34) rfl (XS.iconst X92.here hx rfl (hb hby at_35) (q)))))))) ?_
    obtain ⟨_, _, ⟨rfl, z94, hz94, rfl⟩, st94⟩ : own_Re p e below (fun T' g' => T92 = T' ∧ ∃ z : Int32, z = (if (((p0.toUInt32 >>> ((2 : Int32) &&& 31).toUInt32).toInt32) &&& (3 : Int32)) = (3 : Int32) then (1 : Int32) else (0 : Int32)) ∧ g' = (mkF m 44 #[.val (.int p0), .val (.int p1), .val (.int p2), .val (.int p3), .val (.ref a92), .val (.int z93), .unset, .unset, .unset, .unset, .unset, .unset, .unset, .unset] [(.int z)])) T92 (mkF m 36 #[.val (.int p0), .val (.int p1), .val (.int p2), .val (.int p3), .val (.ref a92), .val (.int z93), .unset, .unset, .unset, .unset, .unset, .unset, .unset, .unset] [(.int (3 : Int32)), (.int (((p0.toUInt32 >>> ((2 : Int32) &&& 31).toUInt32).toInt32) &&& (3 : Int32)))]) := by
      by_cases hc94 : (((p0.toUInt32 >>> ((2 : Int32) &&& 31).toUInt32).toInt32) &&& (3 : Int32)) = (3 : Int32)
      · skip
        refine own_stR (g' := (mkF m 44 #[.val (.int p0), .val (.int p1), .val (.int p2), .val (.int p3), .val (.ref a92), .val (.int z93), .unset, .unset, .unset, .unset, .unset, .unset, .unset, .unset] [(.int (1 : Int32))])) (fun _ q => XS.icmpNo X92.here hx rfl (hb hby at_36) rfl (teq hc94).2 (XS.iconst X92.here hx rfl (hb hby at_39) (XS.goto X92.here hx rfl (pc0 := 40) (pc' := 44) rfl (hb hby at_40) (by decide) (by decide) (q)))) ?_
        exact own_reI ⟨rfl, _, (if_pos hc94).symm, rfl⟩
      · skip
        refine own_stR (g' := (mkF m 44 #[.val (.int p0), .val (.int p1), .val (.int p2), .val (.int p3), .val (.ref a92), .val (.int z93), .unset, .unset, .unset, .unset, .unset, .unset, .unset, .unset] [(.int (0 : Int32))])) (fun _ q => XS.icmpYes X92.here hx rfl (pc0 := 36) (pc' := 43) rfl (hb hby at_36) rfl (feq hc94).2 (by decide) (by decide) (XS.iconst X92.here hx rfl (hb hby at_43) (q))) ?_
        exact own_reI ⟨rfl, _, (if_neg hc94).symm, rfl⟩
    refine own_stW (g' := (mkF m 44 #[.val (.int p0), .val (.int p1), .val (.int p2), .val (.int p3), .val (.ref a92), .val (.int z93), .unset, .unset, .unset, .unset, .unset, .unset, .unset, .unset] [(.int z94)])) st94 ?_
    refine own_stW (g' := (mkF m 56 #[.val (.int p0), .val (.int p1), .val (.int p2), .val (.int p3), .val (.ref a92), .val (.int z93), .val (.int z94), .val (.int (p1 &&& (15 : Int32))), .unset, .unset, .unset, .unset, .unset, .unset] [(.int (8 : Int32)), (.int (p1 &&& (15 : Int32)))])) (fun _ q => XS.istore X92.here hx rfl (hb hby at_44) rfl (l' := #[.val (.int p0), .val (.int p1), .val (.int p2), .val (.int p3), .val (.ref a92), .val (.int z93), .val (.int z94), .unset, .unset, .unset, .unset, .unset, .unset, .unset]) rfl (XS.iloadN X92.here hx rfl (hb hby at_46) rfl (XS.bipush X92.here hx rfl (hb hby at_47) (XS.iand X92.here hx rfl (hb hby at_49) rfl (XS.istore X92.here hx rfl (hb hby at_50) rfl (l' := #[.val (.int p0), .val (.int p1), .val (.int p2), .val (.int p3), .val (.ref a92), .val (.int z93), .val (.int z94), .val (.int (p1 &&& (15 : Int32))), .unset, .unset, .unset, .unset, .unset, .unset]) rfl (XS.iload X92.here hx rfl (hb hby at_52) rfl (XS.bipush X92.here hx rfl (hb hby at_54) (q)))))))) ?_
    by_cases hc95 : (p1 &&& (15 : Int32)) < (8 : Int32)
    · -- (p1 &&& (15 : Int32)) < (8 : Int32)
      refine own_stW (g' := (mkF m 87 #[.val (.int p0), .val (.int p1), .val (.int p2), .val (.int p3), .val (.ref a92), .val (.int z93), .val (.int z94), .val (.int (p1 &&& (15 : Int32))), .val (.int (p1 &&& (15 : Int32))), .val (.int ((p3 &&& (255 : Int32)).toUInt32.toUInt16.toUInt32.toInt32)), .unset, .unset, .unset, .unset] [(.int (((p3.toUInt32 >>> ((8 : Int32) &&& 31).toUInt32).toInt32) &&& (255 : Int32)))])) (fun _ q => XS.icmpNo X92.here hx rfl (hb hby at_56) rfl (tlt hc95).2.1 (XS.iload X92.here hx rfl (hb hby at_59) rfl (XS.goto X92.here hx rfl (pc0 := 61) (pc' := 69) rfl (hb hby at_61) (by decide) (by decide) (XS.istore X92.here hx rfl (hb hby at_69) rfl (l' := #[.val (.int p0), .val (.int p1), .val (.int p2), .val (.int p3), .val (.ref a92), .val (.int z93), .val (.int z94), .val (.int (p1 &&& (15 : Int32))), .val (.int (p1 &&& (15 : Int32))), .unset, .unset, .unset, .unset, .unset]) rfl (XS.iloadN X92.here hx rfl (hb hby at_71) rfl (XS.sipush X92.here hx rfl (hb hby at_72) (XS.iand X92.here hx rfl (hb hby at_75) rfl (XS.i2c X92.here hx rfl (hb hby at_76) rfl (XS.istore X92.here hx rfl (hb hby at_77) rfl (l' := #[.val (.int p0), .val (.int p1), .val (.int p2), .val (.int p3), .val (.ref a92), .val (.int z93), .val (.int z94), .val (.int (p1 &&& (15 : Int32))), .val (.int (p1 &&& (15 : Int32))), .val (.int ((p3 &&& (255 : Int32)).toUInt32.toUInt16.toUInt32.toInt32)), .unset, .unset, .unset, .unset]) rfl (XS.iloadN X92.here hx rfl (hb hby at_79) rfl (XS.bipush X92.here hx rfl (hb hby at_80) (XS.iushr X92.here hx rfl (hb hby at_82) rfl (XS.sipush X92.here hx rfl (hb hby at_83) (XS.iand X92.here hx rfl (hb hby at_86) rfl (q))))))))))))))) ?_
      refine own_stW (g' := (mkF m 92 #[.val (.int p0), .val (.int p1), .val (.int p2), .val (.int p3), .val (.ref a92), .val (.int z93), .val (.int z94), .val (.int (p1 &&& (15 : Int32))), .val (.int (p1 &&& (15 : Int32))), .val (.int ((p3 &&& (255 : Int32)).toUInt32.toUInt16.toUInt32.toInt32)), .val (.int ((((p3.toUInt32 >>> ((8 : Int32) &&& 31).toUInt32).toInt32) &&& (255 : Int32)).toUInt32.toUInt16.toUInt32.toInt32)), .unset, .unset, .unset] [(.int z94)])) (fun _ q => XS.i2c X92.here hx rfl (hb hby at_87) rfl (XS.istore X92.here hx rfl (hb hby at_88) rfl (l' := #[.val (.int p0), .val (.int p1), .val (.int p2), .val (.int p3), .val (.ref a92), .val (.int z93), .val (.int z94), .val (.int (p1 &&& (15 : Int32))), .val (.int (p1 &&& (15 : Int32))), .val (.int ((p3 &&& (255 : Int32)).toUInt32.toUInt16.toUInt32.toInt32)), .val (.int ((((p3.toUInt32 >>> ((8 : Int32) &&& 31).toUInt32).toInt32) &&& (255 : Int32)).toUInt32.toUInt16.toUInt32.toInt32)), .unset, .unset, .unset]) rfl (XS.iload X92.here hx rfl (hb hby at_90) rfl (q)))) ?_
      by_cases hc96 : z94 = (0 : Int32)
      · -- z94 = (0 : Int32)
        refine own_stW (g' := (mkF m 113 #[.val (.int p0), .val (.int p1), .val (.int p2), .val (.int p3), .val (.ref a92), .val (.int z93), .val (.int z94), .val (.int (p1 &&& (15 : Int32))), .val (.int (p1 &&& (15 : Int32))), .val (.int ((p3 &&& (255 : Int32)).toUInt32.toUInt16.toUInt32.toInt32)), .val (.int ((((p3.toUInt32 >>> ((8 : Int32) &&& 31).toUInt32).toInt32) &&& (255 : Int32)).toUInt32.toUInt16.toUInt32.toInt32)), .unset, .unset, .unset] [(.int ((((p3.toUInt32 >>> ((8 : Int32) &&& 31).toUInt32).toInt32) &&& (255 : Int32)).toUInt32.toUInt16.toUInt32.toInt32)), (.int ((p3 &&& (255 : Int32)).toUInt32.toUInt16.toUInt32.toInt32)), (.int z93), (.int (p2 &&& (7 : Int32))), (.int (p1 &&& (15 : Int32))), (.ref a92)])) (fun _ q => XS.ifYes X92.here hx rfl (pc0 := 92) (pc' := 99) rfl (hb hby at_92) rfl ((if0 _ _).trans (teq hc96).1) (by decide) (by decide) (XS.aload X92.here hx rfl (hb hby at_99) rfl rfl (XS.iload X92.here hx rfl (hb hby at_101) rfl (XS.iloadN X92.here hx rfl (hb hby at_103) rfl (XS.bipush X92.here hx rfl (hb hby at_104) (XS.iand X92.here hx rfl (hb hby at_106) rfl (XS.iload X92.here hx rfl (hb hby at_107) rfl (XS.iload X92.here hx rfl (hb hby at_109) rfl (XS.iload X92.here hx rfl (hb hby at_111) rfl (q)))))))))) ?_
        obtain ⟨d0, hd0⟩ : ∃ z : Int32, z = nar .char (own_f_at own_fresh 0 (0 : Int32) (p2 &&& (7 : Int32)) z93 ((p3 &&& (255 : Int32)).toUInt32.toUInt16.toUInt32.toInt32) ((((p3.toUInt32 >>> ((8 : Int32) &&& 31).toUInt32).toInt32) &&& (255 : Int32)).toUInt32.toUInt16.toUInt32.toInt32)) := ⟨_, rfl⟩
        have gd0 : ¬ d0 < 0 ∧ ¬ (255 : Int32) < d0 := by rw [hd0]; exact own_at_rng _ _ _ _ _ _ _ own_shF (own_and255 _) (own_and255 _)
        obtain ⟨d1, hd1⟩ : ∃ z : Int32, z = nar .char (own_f_at own_fresh 1 (1 : Int32) (p2 &&& (7 : Int32)) z93 ((p3 &&& (255 : Int32)).toUInt32.toUInt16.toUInt32.toInt32) ((((p3.toUInt32 >>> ((8 : Int32) &&& 31).toUInt32).toInt32) &&& (255 : Int32)).toUInt32.toUInt16.toUInt32.toInt32)) := ⟨_, rfl⟩
        have gd1 : ¬ d1 < 0 ∧ ¬ (255 : Int32) < d1 := by rw [hd1]; exact own_at_rng _ _ _ _ _ _ _ own_shF (own_and255 _) (own_and255 _)
        obtain ⟨d2, hd2⟩ : ∃ z : Int32, z = nar .char (own_f_at own_fresh 2 (2 : Int32) (p2 &&& (7 : Int32)) z93 ((p3 &&& (255 : Int32)).toUInt32.toUInt16.toUInt32.toInt32) ((((p3.toUInt32 >>> ((8 : Int32) &&& 31).toUInt32).toInt32) &&& (255 : Int32)).toUInt32.toUInt16.toUInt32.toInt32)) := ⟨_, rfl⟩
        have gd2 : ¬ d2 < 0 ∧ ¬ (255 : Int32) < d2 := by rw [hd2]; exact own_at_rng _ _ _ _ _ _ _ own_shF (own_and255 _) (own_and255 _)
        obtain ⟨d3, hd3⟩ : ∃ z : Int32, z = nar .char (own_f_at own_fresh 3 (3 : Int32) (p2 &&& (7 : Int32)) z93 ((p3 &&& (255 : Int32)).toUInt32.toUInt16.toUInt32.toInt32) ((((p3.toUInt32 >>> ((8 : Int32) &&& 31).toUInt32).toInt32) &&& (255 : Int32)).toUInt32.toUInt16.toUInt32.toInt32)) := ⟨_, rfl⟩
        have gd3 : ¬ d3 < 0 ∧ ¬ (255 : Int32) < d3 := by rw [hd3]; exact own_at_rng _ _ _ _ _ _ _ own_shF (own_and255 _) (own_and255 _)
        obtain ⟨d4, hd4⟩ : ∃ z : Int32, z = nar .char (own_f_at own_fresh 4 (4 : Int32) (p2 &&& (7 : Int32)) z93 ((p3 &&& (255 : Int32)).toUInt32.toUInt16.toUInt32.toInt32) ((((p3.toUInt32 >>> ((8 : Int32) &&& 31).toUInt32).toInt32) &&& (255 : Int32)).toUInt32.toUInt16.toUInt32.toInt32)) := ⟨_, rfl⟩
        have gd4 : ¬ d4 < 0 ∧ ¬ (255 : Int32) < d4 := by rw [hd4]; exact own_at_rng _ _ _ _ _ _ _ own_shF (own_and255 _) (own_and255 _)
        obtain ⟨d5, hd5⟩ : ∃ z : Int32, z = nar .char (own_f_at own_fresh 5 (5 : Int32) (p2 &&& (7 : Int32)) z93 ((p3 &&& (255 : Int32)).toUInt32.toUInt16.toUInt32.toInt32) ((((p3.toUInt32 >>> ((8 : Int32) &&& 31).toUInt32).toInt32) &&& (255 : Int32)).toUInt32.toUInt16.toUInt32.toInt32)) := ⟨_, rfl⟩
        have gd5 : ¬ d5 < 0 ∧ ¬ (255 : Int32) < d5 := by rw [hd5]; exact own_at_rng _ _ _ _ _ _ _ own_shF (own_and255 _) (own_and255 _)
        obtain ⟨d6, hd6⟩ : ∃ z : Int32, z = nar .char (own_f_at own_fresh 6 (6 : Int32) (p2 &&& (7 : Int32)) z93 ((p3 &&& (255 : Int32)).toUInt32.toUInt16.toUInt32.toInt32) ((((p3.toUInt32 >>> ((8 : Int32) &&& 31).toUInt32).toInt32) &&& (255 : Int32)).toUInt32.toUInt16.toUInt32.toInt32)) := ⟨_, rfl⟩
        have gd6 : ¬ d6 < 0 ∧ ¬ (255 : Int32) < d6 := by rw [hd6]; exact own_at_rng _ _ _ _ _ _ _ own_shF (own_and255 _) (own_and255 _)
        have K98 : own_BkW l room_1 p e below s #[(.int p0), (.int p1), (.int p2), (.int p3)] (⟨"org/proofstand/runner/VmModeNamedPinLaw", "build", "(Ljava/lang/String;IIZCC)Ljava/lang/String;"⟩ : MethodName) 0 Z own_EL T92.vm h92 #[(.ref a92), (.int (p1 &&& (15 : Int32))), (.int (p2 &&& (7 : Int32))), (.int z93), (.int ((p3 &&& (255 : Int32)).toUInt32.toUInt16.toUInt32.toInt32)), (.int ((((p3.toUInt32 >>> ((8 : Int32) &&& 31).toUInt32).toInt32) &&& (255 : Int32)).toUInt32.toUInt16.toUInt32.toInt32))] 6 18 (own_Q_build Z a92 t92 kb92 own_fresh (5 : Int32) own_vsF (p1 &&& (15 : Int32)) (p2 &&& (7 : Int32)) z93 ((p3 &&& (255 : Int32)).toUInt32.toUInt16.toUInt32.toInt32) ((((p3.toUInt32 >>> ((8 : Int32) &&& 31).toUInt32).toInt32) &&& (255 : Int32)).toUInt32.toUInt16.toUInt32.toInt32) z d0 d1 d2 d3 d4 d5 d6 fm n0 h92) := own_backW (R := room_1) (W := 0) (Qc := (own_Q_build Z a92 t92 kb92 own_fresh (5 : Int32) own_vsF (p1 &&& (15 : Int32)) (p2 &&& (7 : Int32)) z93 ((p3 &&& (255 : Int32)).toUInt32.toUInt16.toUInt32.toInt32) ((((p3.toUInt32 >>> ((8 : Int32) &&& 31).toUInt32).toInt32) &&& (255 : Int32)).toUInt32.toUInt16.toUInt32.toInt32) z d0 d1 d2 d3 d4 d5 d6 fm n0 h92)) (rm := ({ frames := 5, cells := 6, slots := 18, locals := 70 } : Room)) (xs := []) (own_rm_build l Z a0 hw [] a92 t92 kb92 own_fresh (5 : Int32) own_vsF (p1 &&& (15 : Int32)) (p2 &&& (7 : Int32)) z93 ((p3 &&& (255 : Int32)).toUInt32.toUInt16.toUInt32.toInt32) ((((p3.toUInt32 >>> ((8 : Int32) &&& 31).toUInt32).toInt32) &&& (255 : Int32)).toUInt32.toUInt16.toUInt32.toInt32) z d0 d1 d2 d3 d4 d5 d6 fm n0 h92 Ea92 Fa92 Ca92 Va92 own_codF own_hbF (by decide) O hz Om rf (Nat.le_trans Z0 E92.1) (X00.ext E92) hd0 gd0 hd1 gd1 hd2 gd2 hd3 gd3 hd4 gd4 hd5 gd5 hd6 gd6) w92 (hw _ (List.mem_of_getElem? (i := 11) rfl)) (hw _ (List.mem_of_getElem? (i := 10) rfl)) (by decide) (by decide) hEL all0
        obtain ⟨_, L99, T99, X99, ⟨N99q, K99, x99, t99, kb99, N299, vs99, rfl, u99, E99, F99, Cd99, A99, cod99⟩, w99, C99, st99⟩ := own_cSW X92 hx w92 (hw _ (List.mem_of_getElem? (i := 8) rfl)) (hw _ (List.mem_of_getElem? (i := 9) rfl)) (hw _ (List.mem_of_getElem? (i := 10) rfl)) (hw _ (List.mem_of_getElem? (i := 11) rfl)) (by decide) e92 (h := h92) (argsL := [(.ref a92), (.int (p1 &&& (15 : Int32))), (.int (p2 &&& (7 : Int32))), (.int z93), (.int ((p3 &&& (255 : Int32)).toUInt32.toUInt16.toUInt32.toInt32)), (.int ((((p3.toUInt32 >>> ((8 : Int32) &&& 31).toUInt32).toInt32) &&& (255 : Int32)).toUInt32.toUInt16.toUInt32.toInt32))]) (rest := []) K98 (pc := 113) (Ls := #[.val (.int p0), .val (.int p1), .val (.int p2), .val (.int p3), .val (.ref a92), .val (.int z93), .val (.int z94), .val (.int (p1 &&& (15 : Int32))), .val (.int (p1 &&& (15 : Int32))), .val (.int ((p3 &&& (255 : Int32)).toUInt32.toUInt16.toUInt32.toInt32)), .val (.int ((((p3.toUInt32 >>> ((8 : Int32) &&& 31).toUInt32).toInt32) &&& (255 : Int32)).toUInt32.toUInt16.toUInt32.toInt32)), .unset, .unset, .unset]) (by rw [hml]; rfl) (lenOf own_pd11 rfl) rfl (Nat.le_of_eq rfl) (hb hby at_113) (by decide) (by decide)
        have N99 := Fr.app N0 N99q
        obtain ⟨cs99, hcs99⟩ : ∃ z, z = own_bs (p1 &&& (15 : Int32)) d0 d1 d2 d3 d4 d5 d6 := ⟨_, rfl⟩
        rw [← hcs99] at cod99
        have hb99 : ∀ c ∈ cs99, ¬ c < 0 ∧ ¬ (65535 : Int32) < c := by rw [hcs99]; exact own_bs_rng _ _ _ _ _ _ _ _ gd0 gd1 gd2 gd3 gd4 gd5 gd6
        have l299 : cs99.length ≤ 4000 := by rw [hcs99]; exact own_bs_len _ _ _ _ _ _ _ _
        refine own_stW (g' := (mkF m 116 #[.val (.int p0), .val (.int p1), .val (.int p2), .val (.int p3), .val (.ref a92), .val (.int z93), .val (.int z94), .val (.int (p1 &&& (15 : Int32))), .val (.int (p1 &&& (15 : Int32))), .val (.int ((p3 &&& (255 : Int32)).toUInt32.toUInt16.toUInt32.toInt32)), .val (.int ((((p3.toUInt32 >>> ((8 : Int32) &&& 31).toUInt32).toInt32) &&& (255 : Int32)).toUInt32.toUInt16.toUInt32.toInt32)), .unset, .unset, .unset] [(.ref x99)])) st99 ?_
        refine own_stW (g' := (mkF m 120 #[.val (.int p0), .val (.int p1), .val (.int p2), .val (.int p3), .val (.ref a92), .val (.int z93), .val (.int z94), .val (.int (p1 &&& (15 : Int32))), .val (.int (p1 &&& (15 : Int32))), .val (.int ((p3 &&& (255 : Int32)).toUInt32.toUInt16.toUInt32.toInt32)), .val (.int ((((p3.toUInt32 >>> ((8 : Int32) &&& 31).toUInt32).toInt32) &&& (255 : Int32)).toUInt32.toUInt16.toUInt32.toInt32)), .val (.ref x99), .unset, .unset] [(.ref x99)])) (fun _ q => XS.astore X99.here hx rfl (hb hby at_116) rfl rfl (l' := #[.val (.int p0), .val (.int p1), .val (.int p2), .val (.int p3), .val (.ref a92), .val (.int z93), .val (.int z94), .val (.int (p1 &&& (15 : Int32))), .val (.int (p1 &&& (15 : Int32))), .val (.int ((p3 &&& (255 : Int32)).toUInt32.toUInt16.toUInt32.toInt32)), .val (.int ((((p3.toUInt32 >>> ((8 : Int32) &&& 31).toUInt32).toInt32) &&& (255 : Int32)).toUInt32.toUInt16.toUInt32.toInt32)), .val (.ref x99), .unset, .unset]) rfl (XS.aload X99.here hx rfl (hb hby at_118) rfl rfl (q))) ?_
        have K100 : own_Bk l room_1 p e below (s.setVm T99.vm) #[(.int p0), (.int p1), (.int p2), (.int p3)] (⟨"org/proofstand/runner/VmMode", "named", "(Ljava/lang/String;)Ljava/util/Optional;"⟩ : MethodName) 0 T99.heap #[(.ref x99)] 2 3 (own_Q_named Z x99 t99 kb99 cs99 N299 vs99 aV aS aF aE wS tS wF tF kv kS kF z n0 T99.heap) := backOf (s := (s.setVm T99.vm)) (R := room_1) (W := 0) (Q := (own_Q_named Z x99 t99 kb99 cs99 N299 vs99 aV aS aF aE wS tS wF tF kv kS kF z n0 T99.heap)) (rm := ({ frames := 3, cells := 2, slots := 3, locals := 38 } : Room)) (own_rm_named l Z a0 hw [] x99 t99 kb99 cs99 N299 vs99 aV aS aF aE wS tS wF tF kv kS kF z n0 T99.heap E99 F99 Cd99 A99 cod99 hb99 l299 (Nat.le_trans Z0 (Nat.le_trans E92.1 K99.1)) ((X00.ext E92).keep K99 all0) O hz OV VV EV OE EE FE ES FS CS KS MS EMS EF FF CF KF MF EMF) w99.2.1 (hw _ (List.mem_of_getElem? (i := 75) rfl)) (hw _ (List.mem_of_getElem? (i := 74) rfl)) (by decide) (by decide)
        obtain ⟨_, L101, T101, X101, ⟨N101q, K101, x101, rfl, E101, F101⟩, st101⟩ := own_cS X99 hx w99.2.1 w99.2.2.1 (hw _ (List.mem_of_getElem? (i := 72) rfl)) (hw _ (List.mem_of_getElem? (i := 73) rfl)) (hw _ (List.mem_of_getElem? (i := 74) rfl)) (hw _ (List.mem_of_getElem? (i := 75) rfl)) (by decide) rfl (h := T99.heap) (argsL := [(.ref x99)]) (rest := []) K100 (pc := 120) (Ls := #[.val (.int p0), .val (.int p1), .val (.int p2), .val (.int p3), .val (.ref a92), .val (.int z93), .val (.int z94), .val (.int (p1 &&& (15 : Int32))), .val (.int (p1 &&& (15 : Int32))), .val (.int ((p3 &&& (255 : Int32)).toUInt32.toUInt16.toUInt32.toInt32)), .val (.int ((((p3.toUInt32 >>> ((8 : Int32) &&& 31).toUInt32).toInt32) &&& (255 : Int32)).toUInt32.toUInt16.toUInt32.toInt32)), .val (.ref x99), .unset, .unset]) (by rw [hml]; rfl) (lenOf own_pd12 rfl) rfl (Nat.le_of_eq rfl) (hb hby at_120) (by decide) (by decide)
        have N101 := Fr.app N99 N101q
        have w102 := w99.keep K101 sf0
        refine own_stW (g' := (mkF m 123 #[.val (.int p0), .val (.int p1), .val (.int p2), .val (.int p3), .val (.ref a92), .val (.int z93), .val (.int z94), .val (.int (p1 &&& (15 : Int32))), .val (.int (p1 &&& (15 : Int32))), .val (.int ((p3 &&& (255 : Int32)).toUInt32.toUInt16.toUInt32.toInt32)), .val (.int ((((p3.toUInt32 >>> ((8 : Int32) &&& 31).toUInt32).toInt32) &&& (255 : Int32)).toUInt32.toUInt16.toUInt32.toInt32)), .val (.ref x99), .unset, .unset] [(.ref x101)])) st101 ?_
        refine own_stW (g' := (mkF m 135 #[.val (.int p0), .val (.int p1), .val (.int p2), .val (.int p3), .val (.ref a92), .val (.int z93), .val (.int z94), .val (.int (p1 &&& (15 : Int32))), .val (.int (p1 &&& (15 : Int32))), .val (.int ((p3 &&& (255 : Int32)).toUInt32.toUInt16.toUInt32.toInt32)), .val (.int ((((p3.toUInt32 >>> ((8 : Int32) &&& 31).toUInt32).toInt32) &&& (255 : Int32)).toUInt32.toUInt16.toUInt32.toInt32)), .val (.ref x99), .val (.ref x101), .val .null] [(.ref x99)])) (fun _ q => XS.astore X101.here hx rfl (hb hby at_123) rfl rfl (l' := #[.val (.int p0), .val (.int p1), .val (.int p2), .val (.int p3), .val (.ref a92), .val (.int z93), .val (.int z94), .val (.int (p1 &&& (15 : Int32))), .val (.int (p1 &&& (15 : Int32))), .val (.int ((p3 &&& (255 : Int32)).toUInt32.toUInt16.toUInt32.toInt32)), .val (.int ((((p3.toUInt32 >>> ((8 : Int32) &&& 31).toUInt32).toInt32) &&& (255 : Int32)).toUInt32.toUInt16.toUInt32.toInt32)), .val (.ref x99), .val (.ref x101), .unset]) rfl (XS.aconstNull X101.here hx rfl (hb hby at_125) (XS.astore X101.here hx rfl (hb hby at_126) rfl rfl (l' := #[.val (.int p0), .val (.int p1), .val (.int p2), .val (.int p3), .val (.ref a92), .val (.int z93), .val (.int z94), .val (.int (p1 &&& (15 : Int32))), .val (.int (p1 &&& (15 : Int32))), .val (.int ((p3 &&& (255 : Int32)).toUInt32.toUInt16.toUInt32.toInt32)), .val (.int ((((p3.toUInt32 >>> ((8 : Int32) &&& 31).toUInt32).toInt32) &&& (255 : Int32)).toUInt32.toUInt16.toUInt32.toInt32)), .val (.ref x99), .val (.ref x101), .val .null]) rfl (XS.aload X101.here hx rfl (hb hby at_128) rfl rfl (XS.ifnullNo X101.here hx rfl (hb hby at_130) rfl (XS.aload X101.here hx rfl (hb hby at_133) rfl rfl (q))))))) ?_
        obtain ⟨a103, T103, h103, t103, kb103, X103, e103, E103, w103, sf103, Ea103, Ca103, Fa103, Va103, ns103, st103⟩ := own_ldcC X101 hx w102 hEL (hw _ (List.mem_of_getElem? (i := 0) rfl)) hSA rfl (by decide) (vs := [(.int (115 : Int32)), (.int (104 : Int32)), (.int (97 : Int32)), (.int (114 : Int32)), (.int (101 : Int32)), (.int (100 : Int32))]) (z := (6 : Int32)) (by decide) (by decide) rfl (pc := 135) (Ls := #[.val (.int p0), .val (.int p1), .val (.int p2), .val (.int p3), .val (.ref a92), .val (.int z93), .val (.int z94), .val (.int (p1 &&& (15 : Int32))), .val (.int (p1 &&& (15 : Int32))), .val (.int ((p3 &&& (255 : Int32)).toUInt32.toUInt16.toUInt32.toInt32)), .val (.int ((((p3.toUInt32 >>> ((8 : Int32) &&& 31).toUInt32).toInt32) &&& (255 : Int32)).toUInt32.toUInt16.toUInt32.toInt32)), .val (.ref x99), .val (.ref x101), .val .null]) (stk := [(.ref x99)]) (hb hby at_135) (n := 24) (by decide) (by decide) (by decide) (by decide)
        refine own_stW (g' := (mkF m 137 #[.val (.int p0), .val (.int p1), .val (.int p2), .val (.int p3), .val (.ref a92), .val (.int z93), .val (.int z94), .val (.int (p1 &&& (15 : Int32))), .val (.int (p1 &&& (15 : Int32))), .val (.int ((p3 &&& (255 : Int32)).toUInt32.toUInt16.toUInt32.toInt32)), .val (.int ((((p3.toUInt32 >>> ((8 : Int32) &&& 31).toUInt32).toInt32) &&& (255 : Int32)).toUInt32.toUInt16.toUInt32.toInt32)), .val (.ref x99), .val (.ref x101), .val .null] [(.ref a103), (.ref x99)])) st103 ?_
        have K104 : own_Bk l room_1 p e below (s.setVm T103.vm) #[(.int p0), (.int p1), (.int p2), (.int p3)] (⟨"java/lang/String", "equals", "(Ljava/lang/Object;)Z"⟩ : MethodName) 0 h103 #[(.ref x99), (.ref a103)] 0 0 (fun v h L => ((v = some (.int 1) ∧ cs99 = own_shared) ∨ (v = some (.int 0) ∧ ¬ cs99 = own_shared)) ∧ L = [] ∧ h = h103) := StrChars.Road.eqW (s := (s.setVm T103.vm)) (W := 0) w103.2.1 (own_heq hw) (kI := 4) (hw _ (List.mem_of_getElem? (i := 2) rfl)) ((E99.keep K101).ext E103) ((F99.keep K101 nin0).ext E103) ((Cd99.keep K101 nin0).ext E103) ((A99.keep K101 nin0).ext E103) cod99 hb99 l299 Ea103 Fa103 Ca103 Va103 own_codS own_hbS (by decide) (O.ext ((((X00.ext E92).keep K99 all0).keep K101 all0).ext E103).2) hz (by decide) (by decide)
        obtain ⟨v104, T104, hv104, X104, e104, st104⟩ := own_pureE (A := fun v => ((v = some (.int 1) ∧ cs99 = own_shared) ∨ (v = some (.int 0) ∧ ¬ cs99 = own_shared))) (own_cV X103 hx w103.2.1 w103.2.2.1 (hw _ (List.mem_of_getElem? (i := 109) rfl)) (hw _ (List.mem_of_getElem? (i := 96) rfl)) (notFace_of_selects (args := #[]) (mvT w103.2.1 (hw _ (List.mem_of_getElem? (i := 98) rfl)))) (hw _ (List.mem_of_getElem? (i := 98) rfl)) (hw _ (List.mem_of_getElem? (i := 97) rfl)) (by decide) e103 (h := h103) (b := x99) ((E99.keep K101).ext E103) (argsL := [(.ref a103)]) (rest := []) K104 (pc := 137) (Ls := #[.val (.int p0), .val (.int p1), .val (.int p2), .val (.int p3), .val (.ref a92), .val (.int z93), .val (.int z94), .val (.int (p1 &&& (15 : Int32))), .val (.int (p1 &&& (15 : Int32))), .val (.int ((p3 &&& (255 : Int32)).toUInt32.toUInt16.toUInt32.toInt32)), .val (.int ((((p3.toUInt32 >>> ((8 : Int32) &&& 31).toUInt32).toInt32) &&& (255 : Int32)).toUInt32.toUInt16.toUInt32.toInt32)), .val (.ref x99), .val (.ref x101), .val .null]) (by rw [hml]; rfl) (lenOf own_pd8 rfl) rfl (Nat.le_of_eq rfl) (hb hby at_137) (by decide) (by decide))
        obtain ⟨r104, hr104, rfl⟩ := own_eq01 hv104
        refine own_stW (g' := (mkF m 140 #[.val (.int p0), .val (.int p1), .val (.int p2), .val (.int p3), .val (.ref a92), .val (.int z93), .val (.int z94), .val (.int (p1 &&& (15 : Int32))), .val (.int (p1 &&& (15 : Int32))), .val (.int ((p3 &&& (255 : Int32)).toUInt32.toUInt16.toUInt32.toInt32)), .val (.int ((((p3.toUInt32 >>> ((8 : Int32) &&& 31).toUInt32).toInt32) &&& (255 : Int32)).toUInt32.toUInt16.toUInt32.toInt32)), .val (.ref x99), .val (.ref x101), .val .null] [(.int r104)])) st104 ?_
        by_cases hc105 : r104 = (0 : Int32)
        · -- r104 = (0 : Int32)
          refine own_stW (g' := (mkF m 153 #[.val (.int p0), .val (.int p1), .val (.int p2), .val (.int p3), .val (.ref a92), .val (.int z93), .val (.int z94), .val (.int (p1 &&& (15 : Int32))), .val (.int (p1 &&& (15 : Int32))), .val (.int ((p3 &&& (255 : Int32)).toUInt32.toUInt16.toUInt32.toInt32)), .val (.int ((((p3.toUInt32 >>> ((8 : Int32) &&& 31).toUInt32).toInt32) &&& (255 : Int32)).toUInt32.toUInt16.toUInt32.toInt32)), .val (.ref x99), .val (.ref x101), .val .null] [(.ref x99)])) (fun _ q => XS.ifYes X104.here hx rfl (pc0 := 140) (pc' := 151) rfl (hb hby at_140) rfl ((if0 _ _).trans (teq hc105).1) (by decide) (by decide) (XS.aload X104.here hx rfl (hb hby at_151) rfl rfl (q))) ?_
          obtain ⟨a106, T106, h106, t106, kb106, X106, e106, E106, w106, sf106, Ea106, Ca106, Fa106, Va106, ns106, st106⟩ := own_ldcC X104 hx w103 hEL (hw _ (List.mem_of_getElem? (i := 110) rfl)) hSA e104 (by decide) (vs := [(.int (102 : Int32)), (.int (114 : Int32)), (.int (101 : Int32)), (.int (115 : Int32)), (.int (104 : Int32))]) (z := (5 : Int32)) (by decide) (by decide) rfl (pc := 153) (Ls := #[.val (.int p0), .val (.int p1), .val (.int p2), .val (.int p3), .val (.ref a92), .val (.int z93), .val (.int z94), .val (.int (p1 &&& (15 : Int32))), .val (.int (p1 &&& (15 : Int32))), .val (.int ((p3 &&& (255 : Int32)).toUInt32.toUInt16.toUInt32.toInt32)), .val (.int ((((p3.toUInt32 >>> ((8 : Int32) &&& 31).toUInt32).toInt32) &&& (255 : Int32)).toUInt32.toUInt16.toUInt32.toInt32)), .val (.ref x99), .val (.ref x101), .val .null]) (stk := [(.ref x99)]) (hb hby at_153) (n := 20) (by decide) (by decide) (by decide) (by decide)
          refine own_stW (g' := (mkF m 155 #[.val (.int p0), .val (.int p1), .val (.int p2), .val (.int p3), .val (.ref a92), .val (.int z93), .val (.int z94), .val (.int (p1 &&& (15 : Int32))), .val (.int (p1 &&& (15 : Int32))), .val (.int ((p3 &&& (255 : Int32)).toUInt32.toUInt16.toUInt32.toInt32)), .val (.int ((((p3.toUInt32 >>> ((8 : Int32) &&& 31).toUInt32).toInt32) &&& (255 : Int32)).toUInt32.toUInt16.toUInt32.toInt32)), .val (.ref x99), .val (.ref x101), .val .null] [(.ref a106), (.ref x99)])) st106 ?_
          have K107 : own_Bk l room_1 p e below (s.setVm T106.vm) #[(.int p0), (.int p1), (.int p2), (.int p3)] (⟨"java/lang/String", "equals", "(Ljava/lang/Object;)Z"⟩ : MethodName) 0 h106 #[(.ref x99), (.ref a106)] 0 0 (fun v h L => ((v = some (.int 1) ∧ cs99 = own_fresh) ∨ (v = some (.int 0) ∧ ¬ cs99 = own_fresh)) ∧ L = [] ∧ h = h106) := StrChars.Road.eqW (s := (s.setVm T106.vm)) (W := 0) w106.2.1 (own_heq hw) (kI := 4) (hw _ (List.mem_of_getElem? (i := 2) rfl)) (((E99.keep K101).ext E103).ext E106) (((F99.keep K101 nin0).ext E103).ext E106) (((Cd99.keep K101 nin0).ext E103).ext E106) (((A99.keep K101 nin0).ext E103).ext E106) cod99 hb99 l299 Ea106 Fa106 Ca106 Va106 own_codF own_hbF (by decide) (O.ext (((((X00.ext E92).keep K99 all0).keep K101 all0).ext E103).ext E106).2) hz (by decide) (by decide)
          obtain ⟨v107, T107, hv107, X107, e107, st107⟩ := own_pureE (A := fun v => ((v = some (.int 1) ∧ cs99 = own_fresh) ∨ (v = some (.int 0) ∧ ¬ cs99 = own_fresh))) (own_cV X106 hx w106.2.1 w106.2.2.1 (hw _ (List.mem_of_getElem? (i := 109) rfl)) (hw _ (List.mem_of_getElem? (i := 96) rfl)) (notFace_of_selects (args := #[]) (mvT w106.2.1 (hw _ (List.mem_of_getElem? (i := 98) rfl)))) (hw _ (List.mem_of_getElem? (i := 98) rfl)) (hw _ (List.mem_of_getElem? (i := 97) rfl)) (by decide) e106 (h := h106) (b := x99) (((E99.keep K101).ext E103).ext E106) (argsL := [(.ref a106)]) (rest := []) K107 (pc := 155) (Ls := #[.val (.int p0), .val (.int p1), .val (.int p2), .val (.int p3), .val (.ref a92), .val (.int z93), .val (.int z94), .val (.int (p1 &&& (15 : Int32))), .val (.int (p1 &&& (15 : Int32))), .val (.int ((p3 &&& (255 : Int32)).toUInt32.toUInt16.toUInt32.toInt32)), .val (.int ((((p3.toUInt32 >>> ((8 : Int32) &&& 31).toUInt32).toInt32) &&& (255 : Int32)).toUInt32.toUInt16.toUInt32.toInt32)), .val (.ref x99), .val (.ref x101), .val .null]) (by rw [hml]; rfl) (lenOf own_pd8 rfl) rfl (Nat.le_of_eq rfl) (hb hby at_155) (by decide) (by decide))
          obtain ⟨r107, hr107, rfl⟩ := own_eq01 hv107
          refine own_stW (g' := (mkF m 158 #[.val (.int p0), .val (.int p1), .val (.int p2), .val (.int p3), .val (.ref a92), .val (.int z93), .val (.int z94), .val (.int (p1 &&& (15 : Int32))), .val (.int (p1 &&& (15 : Int32))), .val (.int ((p3 &&& (255 : Int32)).toUInt32.toUInt16.toUInt32.toInt32)), .val (.int ((((p3.toUInt32 >>> ((8 : Int32) &&& 31).toUInt32).toInt32) &&& (255 : Int32)).toUInt32.toUInt16.toUInt32.toInt32)), .val (.ref x99), .val (.ref x101), .val .null] [(.int r107)])) st107 ?_
          by_cases hc108 : r107 = (0 : Int32)
          · -- r107 = (0 : Int32)
            refine own_stW (g' := (mkF m 173 #[.val (.int p0), .val (.int p1), .val (.int p2), .val (.int p3), .val (.ref a92), .val (.int z93), .val (.int z94), .val (.int (p1 &&& (15 : Int32))), .val (.int (p1 &&& (15 : Int32))), .val (.int ((p3 &&& (255 : Int32)).toUInt32.toUInt16.toUInt32.toInt32)), .val (.int ((((p3.toUInt32 >>> ((8 : Int32) &&& 31).toUInt32).toInt32) &&& (255 : Int32)).toUInt32.toUInt16.toUInt32.toInt32)), .val (.ref x99), .val (.ref x101), .val .null] [(.ref x101)])) (fun _ q => XS.ifYes X107.here hx rfl (pc0 := 158) (pc' := 166) rfl (hb hby at_158) rfl ((if0 _ _).trans (teq hc108).1) (by decide) (by decide) (XS.aload X107.here hx rfl (hb hby at_166) rfl rfl (XS.ifnonnullNo X107.here hx rfl (hb hby at_168) rfl (XS.aload X107.here hx rfl (hb hby at_171) rfl rfl (q))))) ?_
            have Fo109 : Fld Z h106 x101 "java/util/Optional" "value" "Ljava/lang/Object;" .null := by have F := ((F101.ext E103).ext E106); rw [if_neg (fun q => own_r0 hr104 hc105 q.symm), if_neg (fun q => own_r0 hr107 hc108 q.symm)] at F; exact F
            obtain ⟨r110, hr110⟩ : ∃ z : Int32, z = own_f_isp0 := ⟨_, rfl⟩
            have K110 : own_Bk l room_1 p e below (s.setVm T106.vm) #[(.int p0), (.int p1), (.int p2), (.int p3)] (⟨"java/util/Optional", "isPresent", "()Z"⟩ : MethodName) 0 h106 #[(.ref x101)] 0 0 (fun v h L => v = some (.int r110) ∧ L = [] ∧ h = h106) := backOf (s := (s.setVm T106.vm)) (R := room_1) (W := 0) (Q := (fun v h L => v = some (.int r110) ∧ L = [] ∧ h = h106)) (rm := ({ frames := 0, cells := 0, slots := 0, locals := 0 } : Room)) (own_rm_isp0 l Z a0 hw [] x101 r110 h106 Fo109 (by rw [hr110])) w106.2.1 (hw _ (List.mem_of_getElem? (i := 115) rfl)) (hw _ (List.mem_of_getElem? (i := 106) rfl)) (by decide) (by decide)
            obtain ⟨T111, X111, e111, st111⟩ := own_pure (own_cV X107 hx w106.2.1 w106.2.2.1 (hw _ (List.mem_of_getElem? (i := 111) rfl)) (hw _ (List.mem_of_getElem? (i := 112) rfl)) (notFace_of_selects (args := #[]) (mvT w106.2.1 (hw _ (List.mem_of_getElem? (i := 114) rfl)))) (hw _ (List.mem_of_getElem? (i := 114) rfl)) (hw _ (List.mem_of_getElem? (i := 113) rfl)) (by decide) e107 (h := h106) (b := x101) ((E101.ext E103).ext E106) (argsL := []) (rest := []) K110 (pc := 173) (Ls := #[.val (.int p0), .val (.int p1), .val (.int p2), .val (.int p3), .val (.ref a92), .val (.int z93), .val (.int z94), .val (.int (p1 &&& (15 : Int32))), .val (.int (p1 &&& (15 : Int32))), .val (.int ((p3 &&& (255 : Int32)).toUInt32.toUInt16.toUInt32.toInt32)), .val (.int ((((p3.toUInt32 >>> ((8 : Int32) &&& 31).toUInt32).toInt32) &&& (255 : Int32)).toUInt32.toUInt16.toUInt32.toInt32)), .val (.ref x99), .val (.ref x101), .val .null]) (by rw [hml]; rfl) (lenOf own_pd13 rfl) rfl (Nat.le_of_eq rfl) (hb hby at_173) (by decide) (by decide))
            refine own_stW (g' := (mkF m 176 #[.val (.int p0), .val (.int p1), .val (.int p2), .val (.int p3), .val (.ref a92), .val (.int z93), .val (.int z94), .val (.int (p1 &&& (15 : Int32))), .val (.int (p1 &&& (15 : Int32))), .val (.int ((p3 &&& (255 : Int32)).toUInt32.toUInt16.toUInt32.toInt32)), .val (.int ((((p3.toUInt32 >>> ((8 : Int32) &&& 31).toUInt32).toInt32) &&& (255 : Int32)).toUInt32.toUInt16.toUInt32.toInt32)), .val (.ref x99), .val (.ref x101), .val .null] [(.int r110)])) st111 ?_
            refine own_stW (g' := (mkF m 184 #[.val (.int p0), .val (.int p1), .val (.int p2), .val (.int p3), .val (.ref a92), .val (.int z93), .val (.int z94), .val (.int (p1 &&& (15 : Int32))), .val (.int (p1 &&& (15 : Int32))), .val (.int ((p3 &&& (255 : Int32)).toUInt32.toUInt16.toUInt32.toInt32)), .val (.int ((((p3.toUInt32 >>> ((8 : Int32) &&& 31).toUInt32).toInt32) &&& (255 : Int32)).toUInt32.toUInt16.toUInt32.toInt32)), .val (.ref x99), .val (.ref x101), .val .null] [(.int (1 : Int32))])) (fun _ q => XS.ifNo X111.here hx rfl (hb hby at_176) rfl ((if0 _ _).trans (teq (by rw [hr110]; decide)).2) (XS.iconst X111.here hx rfl (hb hby at_179) (XS.goto X111.here hx rfl (pc0 := 180) (pc' := 184) rfl (hb hby at_180) (by decide) (by decide) (q)))) ?_
            exact own_goWN X111 hh w106 hEL e111 hlk hx (t := .boolean) (by simp) Bd.returns (hb hby at_184) ⟨rfl, N101⟩ (by decide) (by decide)
          · -- not: r107 = (0 : Int32)
            refine own_stW (g' := (mkF m 161 #[.val (.int p0), .val (.int p1), .val (.int p2), .val (.int p3), .val (.ref a92), .val (.int z93), .val (.int z94), .val (.int (p1 &&& (15 : Int32))), .val (.int (p1 &&& (15 : Int32))), .val (.int ((p3 &&& (255 : Int32)).toUInt32.toUInt16.toUInt32.toInt32)), .val (.int ((((p3.toUInt32 >>> ((8 : Int32) &&& 31).toUInt32).toInt32) &&& (255 : Int32)).toUInt32.toUInt16.toUInt32.toInt32)), .val (.ref x99), .val (.ref x101), .val .null] [])) (fun _ q => XS.ifNo X107.here hx rfl (hb hby at_158) rfl ((if0 _ _).trans (feq hc108).1) (q)) ?_
            obtain ⟨T112, X112, e112, st112⟩ := getS2 X107 hx w106.2.1 w106.2.2.1 (host := "") (Or.inl (hw _ (List.mem_of_getElem? (i := 132) rfl))) Via.refl e107 (OF_.ext (((((X00.ext E92).keep K99 all0).keep K101 all0).ext E103).ext E106).2) (g := (mkF m 161 #[.val (.int p0), .val (.int p1), .val (.int p2), .val (.int p3), .val (.ref a92), .val (.int z93), .val (.int z94), .val (.int (p1 &&& (15 : Int32))), .val (.int (p1 &&& (15 : Int32))), .val (.int ((p3 &&& (255 : Int32)).toUInt32.toUInt16.toUInt32.toInt32)), .val (.int ((((p3.toUInt32 >>> ((8 : Int32) &&& 31).toUInt32).toInt32) &&& (255 : Int32)).toUInt32.toUInt16.toUInt32.toInt32)), .val (.ref x99), .val (.ref x101), .val .null] [])) rfl (hb hby at_161)
            refine own_stW (g' := (mkF m 164 #[.val (.int p0), .val (.int p1), .val (.int p2), .val (.int p3), .val (.ref a92), .val (.int z93), .val (.int z94), .val (.int (p1 &&& (15 : Int32))), .val (.int (p1 &&& (15 : Int32))), .val (.int ((p3 &&& (255 : Int32)).toUInt32.toUInt16.toUInt32.toInt32)), .val (.int ((((p3.toUInt32 >>> ((8 : Int32) &&& 31).toUInt32).toInt32) &&& (255 : Int32)).toUInt32.toUInt16.toUInt32.toInt32)), .val (.ref x99), .val (.ref x101), .val .null] [(.ref aF)])) st112 ?_
            refine own_stW (g' := (mkF m 187 #[.val (.int p0), .val (.int p1), .val (.int p2), .val (.int p3), .val (.ref a92), .val (.int z93), .val (.int z94), .val (.int (p1 &&& (15 : Int32))), .val (.int (p1 &&& (15 : Int32))), .val (.int ((p3 &&& (255 : Int32)).toUInt32.toUInt16.toUInt32.toInt32)), .val (.int ((((p3.toUInt32 >>> ((8 : Int32) &&& 31).toUInt32).toInt32) &&& (255 : Int32)).toUInt32.toUInt16.toUInt32.toInt32)), .val (.ref x99), .val (.ref x101), .val (.ref aF)] [(.ref x101)])) (fun _ q => XS.astore X112.here hx rfl (hb hby at_164) rfl rfl (l' := #[.val (.int p0), .val (.int p1), .val (.int p2), .val (.int p3), .val (.ref a92), .val (.int z93), .val (.int z94), .val (.int (p1 &&& (15 : Int32))), .val (.int (p1 &&& (15 : Int32))), .val (.int ((p3 &&& (255 : Int32)).toUInt32.toUInt16.toUInt32.toInt32)), .val (.int ((((p3.toUInt32 >>> ((8 : Int32) &&& 31).toUInt32).toInt32) &&& (255 : Int32)).toUInt32.toUInt16.toUInt32.toInt32)), .val (.ref x99), .val (.ref x101), .val (.ref aF)]) rfl (XS.aload X112.here hx rfl (hb hby at_166) rfl rfl (XS.ifnonnullYes X112.here hx rfl (pc0 := 168) (pc' := 185) rfl (hb hby at_168) rfl (by decide) (by decide) (XS.aload X112.here hx rfl (hb hby at_185) rfl rfl (q))))) ?_
            have Fo113 : Fld Z h106 x101 "java/util/Optional" "value" "Ljava/lang/Object;" (.ref aF) := by have F := ((F101.ext E103).ext E106); rw [if_neg (fun q => own_r0 hr104 hc105 q.symm), if_pos (own_r1 hr107 hc108).symm] at F; exact F
            obtain ⟨r114, hr114⟩ : ∃ z : Int32, z = own_f_isp1 := ⟨_, rfl⟩
            have K114 : own_Bk l room_1 p e below (s.setVm T106.vm) #[(.int p0), (.int p1), (.int p2), (.int p3)] (⟨"java/util/Optional", "isPresent", "()Z"⟩ : MethodName) 0 h106 #[(.ref x101)] 0 0 (fun v h L => v = some (.int r114) ∧ L = [] ∧ h = h106) := backOf (s := (s.setVm T106.vm)) (R := room_1) (W := 0) (Q := (fun v h L => v = some (.int r114) ∧ L = [] ∧ h = h106)) (rm := ({ frames := 0, cells := 0, slots := 0, locals := 0 } : Room)) (own_rm_isp1 l Z a0 hw [] x101 aF r114 h106 Fo113 (by rw [hr114])) w106.2.1 (hw _ (List.mem_of_getElem? (i := 115) rfl)) (hw _ (List.mem_of_getElem? (i := 106) rfl)) (by decide) (by decide)
            obtain ⟨T115, X115, e115, st115⟩ := own_pure (own_cV X112 hx w106.2.1 w106.2.2.1 (hw _ (List.mem_of_getElem? (i := 111) rfl)) (hw _ (List.mem_of_getElem? (i := 112) rfl)) (notFace_of_selects (args := #[]) (mvT w106.2.1 (hw _ (List.mem_of_getElem? (i := 114) rfl)))) (hw _ (List.mem_of_getElem? (i := 114) rfl)) (hw _ (List.mem_of_getElem? (i := 113) rfl)) (by decide) e112 (h := h106) (b := x101) ((E101.ext E103).ext E106) (argsL := []) (rest := []) K114 (pc := 187) (Ls := #[.val (.int p0), .val (.int p1), .val (.int p2), .val (.int p3), .val (.ref a92), .val (.int z93), .val (.int z94), .val (.int (p1 &&& (15 : Int32))), .val (.int (p1 &&& (15 : Int32))), .val (.int ((p3 &&& (255 : Int32)).toUInt32.toUInt16.toUInt32.toInt32)), .val (.int ((((p3.toUInt32 >>> ((8 : Int32) &&& 31).toUInt32).toInt32) &&& (255 : Int32)).toUInt32.toUInt16.toUInt32.toInt32)), .val (.ref x99), .val (.ref x101), .val (.ref aF)]) (by rw [hml]; rfl) (lenOf own_pd13 rfl) rfl (Nat.le_of_eq rfl) (hb hby at_187) (by decide) (by decide))
            refine own_stW (g' := (mkF m 190 #[.val (.int p0), .val (.int p1), .val (.int p2), .val (.int p3), .val (.ref a92), .val (.int z93), .val (.int z94), .val (.int (p1 &&& (15 : Int32))), .val (.int (p1 &&& (15 : Int32))), .val (.int ((p3 &&& (255 : Int32)).toUInt32.toUInt16.toUInt32.toInt32)), .val (.int ((((p3.toUInt32 >>> ((8 : Int32) &&& 31).toUInt32).toInt32) &&& (255 : Int32)).toUInt32.toUInt16.toUInt32.toInt32)), .val (.ref x99), .val (.ref x101), .val (.ref aF)] [(.int r114)])) st115 ?_
            refine own_stW (g' := (mkF m 195 #[.val (.int p0), .val (.int p1), .val (.int p2), .val (.int p3), .val (.ref a92), .val (.int z93), .val (.int z94), .val (.int (p1 &&& (15 : Int32))), .val (.int (p1 &&& (15 : Int32))), .val (.int ((p3 &&& (255 : Int32)).toUInt32.toUInt16.toUInt32.toInt32)), .val (.int ((((p3.toUInt32 >>> ((8 : Int32) &&& 31).toUInt32).toInt32) &&& (255 : Int32)).toUInt32.toUInt16.toUInt32.toInt32)), .val (.ref x99), .val (.ref x101), .val (.ref aF)] [(.ref x101)])) (fun _ q => XS.ifNo X115.here hx rfl (hb hby at_190) rfl ((if0 _ _).trans (feq (by rw [hr114]; decide)).1) (XS.aload X115.here hx rfl (hb hby at_193) rfl rfl (q))) ?_
            have Fo116 : Fld Z h106 x101 "java/util/Optional" "value" "Ljava/lang/Object;" (.ref aF) := by have F := ((F101.ext E103).ext E106); rw [if_neg (fun q => own_r0 hr104 hc105 q.symm), if_pos (own_r1 hr107 hc108).symm] at F; exact F
            have K117 : own_Bk l room_1 p e below (s.setVm T106.vm) #[(.int p0), (.int p1), (.int p2), (.int p3)] (⟨"java/util/Optional", "get", "()Ljava/lang/Object;"⟩ : MethodName) 0 h106 #[(.ref x101)] 0 0 (fun v h L => v = some (.ref aF) ∧ L = [] ∧ h = h106) := backOf (s := (s.setVm T106.vm)) (R := room_1) (W := 0) (Q := (fun v h L => v = some (.ref aF) ∧ L = [] ∧ h = h106)) (rm := ({ frames := 0, cells := 0, slots := 0, locals := 0 } : Room)) (own_rm_get l Z a0 hw [] x101 aF  h106 Fo116 ) w106.2.1 (hw _ (List.mem_of_getElem? (i := 137) rfl)) (hw _ (List.mem_of_getElem? (i := 106) rfl)) (by decide) (by decide)
            obtain ⟨T118, X118, e118, st118⟩ := own_pure (own_cV X115 hx w106.2.1 w106.2.2.1 (hw _ (List.mem_of_getElem? (i := 133) rfl)) (hw _ (List.mem_of_getElem? (i := 134) rfl)) (notFace_of_selects (args := #[]) (mvT w106.2.1 (hw _ (List.mem_of_getElem? (i := 136) rfl)))) (hw _ (List.mem_of_getElem? (i := 136) rfl)) (hw _ (List.mem_of_getElem? (i := 135) rfl)) (by decide) e115 (h := h106) (b := x101) ((E101.ext E103).ext E106) (argsL := []) (rest := []) K117 (pc := 195) (Ls := #[.val (.int p0), .val (.int p1), .val (.int p2), .val (.int p3), .val (.ref a92), .val (.int z93), .val (.int z94), .val (.int (p1 &&& (15 : Int32))), .val (.int (p1 &&& (15 : Int32))), .val (.int ((p3 &&& (255 : Int32)).toUInt32.toUInt16.toUInt32.toInt32)), .val (.int ((((p3.toUInt32 >>> ((8 : Int32) &&& 31).toUInt32).toInt32) &&& (255 : Int32)).toUInt32.toUInt16.toUInt32.toInt32)), .val (.ref x99), .val (.ref x101), .val (.ref aF)]) (by rw [hml]; rfl) (lenOf own_pd14 rfl) rfl (Nat.le_of_eq rfl) (hb hby at_195) (by decide) (by decide))
            refine own_stW (g' := (mkF m 198 #[.val (.int p0), .val (.int p1), .val (.int p2), .val (.int p3), .val (.ref a92), .val (.int z93), .val (.int z94), .val (.int (p1 &&& (15 : Int32))), .val (.int (p1 &&& (15 : Int32))), .val (.int ((p3 &&& (255 : Int32)).toUInt32.toUInt16.toUInt32.toInt32)), .val (.int ((((p3.toUInt32 >>> ((8 : Int32) &&& 31).toUInt32).toInt32) &&& (255 : Int32)).toUInt32.toUInt16.toUInt32.toInt32)), .val (.ref x99), .val (.ref x101), .val (.ref aF)] [(.ref aF)])) st118 ?_
            refine own_stW (g' := (mkF m 200 #[.val (.int p0), .val (.int p1), .val (.int p2), .val (.int p3), .val (.ref a92), .val (.int z93), .val (.int z94), .val (.int (p1 &&& (15 : Int32))), .val (.int (p1 &&& (15 : Int32))), .val (.int ((p3 &&& (255 : Int32)).toUInt32.toUInt16.toUInt32.toInt32)), .val (.int ((((p3.toUInt32 >>> ((8 : Int32) &&& 31).toUInt32).toInt32) &&& (255 : Int32)).toUInt32.toUInt16.toUInt32.toInt32)), .val (.ref x99), .val (.ref x101), .val (.ref aF)] [(.ref aF), (.ref aF)])) (fun _ q => XS.aload X118.here hx rfl (hb hby at_198) rfl rfl (q)) ?_
            refine own_stW (g' := (mkF m 205 #[.val (.int p0), .val (.int p1), .val (.int p2), .val (.int p3), .val (.ref a92), .val (.int z93), .val (.int z94), .val (.int (p1 &&& (15 : Int32))), .val (.int (p1 &&& (15 : Int32))), .val (.int ((p3 &&& (255 : Int32)).toUInt32.toUInt16.toUInt32.toInt32)), .val (.int ((((p3.toUInt32 >>> ((8 : Int32) &&& 31).toUInt32).toInt32) &&& (255 : Int32)).toUInt32.toUInt16.toUInt32.toInt32)), .val (.ref x99), .val (.ref x101), .val (.ref aF)] [(.ref aF)])) (fun _ q => Jvm.RoadKit.acmp (g := (mkF m 200 #[.val (.int p0), .val (.int p1), .val (.int p2), .val (.int p3), .val (.ref a92), .val (.int z93), .val (.int z94), .val (.int (p1 &&& (15 : Int32))), .val (.int (p1 &&& (15 : Int32))), .val (.int ((p3 &&& (255 : Int32)).toUInt32.toUInt16.toUInt32.toInt32)), .val (.int ((((p3.toUInt32 >>> ((8 : Int32) &&& 31).toUInt32).toInt32) &&& (255 : Int32)).toUInt32.toUInt16.toUInt32.toInt32)), .val (.ref x99), .val (.ref x101), .val (.ref aF)] [(.ref aF), (.ref aF)])) X118 hx rfl rfl rfl (pc0 := 200) (pc' := 203) (same := true) rfl (hb hby at_200) rfl (decide_eq_true rfl) (by decide) (by decide) (XS.aload X118.here hx rfl (hb hby at_203) rfl rfl (q))) ?_
            have K119 : own_Bk l room_1 p e below (s.setVm T106.vm) #[(.int p0), (.int p1), (.int p2), (.int p3)] (⟨"org/proofstand/runner/VmMode", "word", "()Ljava/lang/String;"⟩ : MethodName) 0 h106 #[(.ref aF)] 0 0 (fun v h L => v = some (.ref wF) ∧ L = [] ∧ h = h106) := backOf (s := (s.setVm T106.vm)) (R := room_1) (W := 0) (Q := (fun v h L => v = some (.ref wF) ∧ L = [] ∧ h = h106)) (rm := ({ frames := 0, cells := 0, slots := 0, locals := 0 } : Room)) (own_rm_word l Z a0 hw [] aF wF  h106 (MF.ext (((((X00.ext E92).keep K99 all0).keep K101 all0).ext E103).ext E106).2) ) w106.2.1 (hw _ (List.mem_of_getElem? (i := 142) rfl)) (hw _ (List.mem_of_getElem? (i := 74) rfl)) (by decide) (by decide)
            obtain ⟨T120, X120, e120, st120⟩ := own_pure (own_cV X118 hx w106.2.1 w106.2.2.1 (hw _ (List.mem_of_getElem? (i := 138) rfl)) (hw _ (List.mem_of_getElem? (i := 139) rfl)) (notFace_of_selects (args := #[]) (mvT w106.2.1 (hw _ (List.mem_of_getElem? (i := 141) rfl)))) (hw _ (List.mem_of_getElem? (i := 141) rfl)) (hw _ (List.mem_of_getElem? (i := 140) rfl)) (by decide) e118 (h := h106) (b := aF) (EMF.ext (((((X00.ext E92).keep K99 all0).keep K101 all0).ext E103).ext E106).2) (argsL := []) (rest := []) K119 (pc := 205) (Ls := #[.val (.int p0), .val (.int p1), .val (.int p2), .val (.int p3), .val (.ref a92), .val (.int z93), .val (.int z94), .val (.int (p1 &&& (15 : Int32))), .val (.int (p1 &&& (15 : Int32))), .val (.int ((p3 &&& (255 : Int32)).toUInt32.toUInt16.toUInt32.toInt32)), .val (.int ((((p3.toUInt32 >>> ((8 : Int32) &&& 31).toUInt32).toInt32) &&& (255 : Int32)).toUInt32.toUInt16.toUInt32.toInt32)), .val (.ref x99), .val (.ref x101), .val (.ref aF)]) (by rw [hml]; rfl) (lenOf own_pd15 rfl) rfl (Nat.le_of_eq rfl) (hb hby at_205) (by decide) (by decide))
            refine own_stW (g' := (mkF m 208 #[.val (.int p0), .val (.int p1), .val (.int p2), .val (.int p3), .val (.ref a92), .val (.int z93), .val (.int z94), .val (.int (p1 &&& (15 : Int32))), .val (.int (p1 &&& (15 : Int32))), .val (.int ((p3 &&& (255 : Int32)).toUInt32.toUInt16.toUInt32.toInt32)), .val (.int ((((p3.toUInt32 >>> ((8 : Int32) &&& 31).toUInt32).toInt32) &&& (255 : Int32)).toUInt32.toUInt16.toUInt32.toInt32)), .val (.ref x99), .val (.ref x101), .val (.ref aF)] [(.ref wF)])) st120 ?_
            refine own_stW (g' := (mkF m 210 #[.val (.int p0), .val (.int p1), .val (.int p2), .val (.int p3), .val (.ref a92), .val (.int z93), .val (.int z94), .val (.int (p1 &&& (15 : Int32))), .val (.int (p1 &&& (15 : Int32))), .val (.int ((p3 &&& (255 : Int32)).toUInt32.toUInt16.toUInt32.toInt32)), .val (.int ((((p3.toUInt32 >>> ((8 : Int32) &&& 31).toUInt32).toInt32) &&& (255 : Int32)).toUInt32.toUInt16.toUInt32.toInt32)), .val (.ref x99), .val (.ref x101), .val (.ref aF)] [(.ref x99), (.ref wF)])) (fun _ q => XS.aload X120.here hx rfl (hb hby at_208) rfl rfl (q)) ?_
            have K121 : own_Bk l room_1 p e below (s.setVm T106.vm) #[(.int p0), (.int p1), (.int p2), (.int p3)] (⟨"java/lang/String", "equals", "(Ljava/lang/Object;)Z"⟩ : MethodName) 0 h106 #[(.ref wF), (.ref x99)] 0 0 (fun v h L => ((v = some (.int 1) ∧ own_fresh = cs99) ∨ (v = some (.int 0) ∧ ¬ own_fresh = cs99)) ∧ L = [] ∧ h = h106) := StrChars.Road.eqW (s := (s.setVm T106.vm)) (W := 0) w106.2.1 (own_heq hw) (kI := 4) (hw _ (List.mem_of_getElem? (i := 2) rfl)) (EF.ext (((((X00.ext E92).keep K99 all0).keep K101 all0).ext E103).ext E106).2) (FF.ext (((((X00.ext E92).keep K99 all0).keep K101 all0).ext E103).ext E106).2) (CF.ext (((((X00.ext E92).keep K99 all0).keep K101 all0).ext E103).ext E106).2) (KF.ext (((((X00.ext E92).keep K99 all0).keep K101 all0).ext E103).ext E106).2) own_codF own_hbF (by decide) (((E99.keep K101).ext E103).ext E106) (((F99.keep K101 nin0).ext E103).ext E106) (((Cd99.keep K101 nin0).ext E103).ext E106) (((A99.keep K101 nin0).ext E103).ext E106) cod99 hb99 l299 (O.ext (((((X00.ext E92).keep K99 all0).keep K101 all0).ext E103).ext E106).2) hz (by decide) (by decide)
            obtain ⟨v121, T121, hv121, X121, e121, st121⟩ := own_pureE (A := fun v => ((v = some (.int 1) ∧ own_fresh = cs99) ∨ (v = some (.int 0) ∧ ¬ own_fresh = cs99))) (own_cV X120 hx w106.2.1 w106.2.2.1 (hw _ (List.mem_of_getElem? (i := 109) rfl)) (hw _ (List.mem_of_getElem? (i := 96) rfl)) (notFace_of_selects (args := #[]) (mvT w106.2.1 (hw _ (List.mem_of_getElem? (i := 98) rfl)))) (hw _ (List.mem_of_getElem? (i := 98) rfl)) (hw _ (List.mem_of_getElem? (i := 97) rfl)) (by decide) e120 (h := h106) (b := wF) (EF.ext (((((X00.ext E92).keep K99 all0).keep K101 all0).ext E103).ext E106).2) (argsL := [(.ref x99)]) (rest := []) K121 (pc := 210) (Ls := #[.val (.int p0), .val (.int p1), .val (.int p2), .val (.int p3), .val (.ref a92), .val (.int z93), .val (.int z94), .val (.int (p1 &&& (15 : Int32))), .val (.int (p1 &&& (15 : Int32))), .val (.int ((p3 &&& (255 : Int32)).toUInt32.toUInt16.toUInt32.toInt32)), .val (.int ((((p3.toUInt32 >>> ((8 : Int32) &&& 31).toUInt32).toInt32) &&& (255 : Int32)).toUInt32.toUInt16.toUInt32.toInt32)), .val (.ref x99), .val (.ref x101), .val (.ref aF)]) (by rw [hml]; rfl) (lenOf own_pd8 rfl) rfl (Nat.le_of_eq rfl) (hb hby at_210) (by decide) (by decide))
            obtain ⟨r121, hr121, rfl⟩ := own_eq01 hv121
            refine own_stW (g' := (mkF m 213 #[.val (.int p0), .val (.int p1), .val (.int p2), .val (.int p3), .val (.ref a92), .val (.int z93), .val (.int z94), .val (.int (p1 &&& (15 : Int32))), .val (.int (p1 &&& (15 : Int32))), .val (.int ((p3 &&& (255 : Int32)).toUInt32.toUInt16.toUInt32.toInt32)), .val (.int ((((p3.toUInt32 >>> ((8 : Int32) &&& 31).toUInt32).toInt32) &&& (255 : Int32)).toUInt32.toUInt16.toUInt32.toInt32)), .val (.ref x99), .val (.ref x101), .val (.ref aF)] [(.int r121)])) st121 ?_
            refine own_stW (g' := (mkF m 221 #[.val (.int p0), .val (.int p1), .val (.int p2), .val (.int p3), .val (.ref a92), .val (.int z93), .val (.int z94), .val (.int (p1 &&& (15 : Int32))), .val (.int (p1 &&& (15 : Int32))), .val (.int ((p3 &&& (255 : Int32)).toUInt32.toUInt16.toUInt32.toInt32)), .val (.int ((((p3.toUInt32 >>> ((8 : Int32) &&& 31).toUInt32).toInt32) &&& (255 : Int32)).toUInt32.toUInt16.toUInt32.toInt32)), .val (.ref x99), .val (.ref x101), .val (.ref aF)] [(.int (1 : Int32))])) (fun _ q => XS.ifNo X121.here hx rfl (hb hby at_213) rfl ((if0 _ _).trans (feq (fun q => own_r0 hr121 q (own_r1 hr107 hc108).symm)).1) (XS.iconst X121.here hx rfl (hb hby at_216) (XS.goto X121.here hx rfl (pc0 := 217) (pc' := 221) rfl (hb hby at_217) (by decide) (by decide) (q)))) ?_
            exact own_goWN X121 hh w106 hEL e121 hlk hx (t := .boolean) (by simp) Bd.returns (hb hby at_221) ⟨rfl, N101⟩ (by decide) (by decide)
        · -- not: r104 = (0 : Int32)
          refine own_stW (g' := (mkF m 143 #[.val (.int p0), .val (.int p1), .val (.int p2), .val (.int p3), .val (.ref a92), .val (.int z93), .val (.int z94), .val (.int (p1 &&& (15 : Int32))), .val (.int (p1 &&& (15 : Int32))), .val (.int ((p3 &&& (255 : Int32)).toUInt32.toUInt16.toUInt32.toInt32)), .val (.int ((((p3.toUInt32 >>> ((8 : Int32) &&& 31).toUInt32).toInt32) &&& (255 : Int32)).toUInt32.toUInt16.toUInt32.toInt32)), .val (.ref x99), .val (.ref x101), .val .null] [])) (fun _ q => XS.ifNo X104.here hx rfl (hb hby at_140) rfl ((if0 _ _).trans (feq hc105).1) (q)) ?_
          obtain ⟨T122, X122, e122, st122⟩ := getS2 X104 hx w103.2.1 w103.2.2.1 (host := "") (Or.inl (hw _ (List.mem_of_getElem? (i := 143) rfl))) Via.refl e104 (OS.ext ((((X00.ext E92).keep K99 all0).keep K101 all0).ext E103).2) (g := (mkF m 143 #[.val (.int p0), .val (.int p1), .val (.int p2), .val (.int p3), .val (.ref a92), .val (.int z93), .val (.int z94), .val (.int (p1 &&& (15 : Int32))), .val (.int (p1 &&& (15 : Int32))), .val (.int ((p3 &&& (255 : Int32)).toUInt32.toUInt16.toUInt32.toInt32)), .val (.int ((((p3.toUInt32 >>> ((8 : Int32) &&& 31).toUInt32).toInt32) &&& (255 : Int32)).toUInt32.toUInt16.toUInt32.toInt32)), .val (.ref x99), .val (.ref x101), .val .null] [])) rfl (hb hby at_143)
          refine own_stW (g' := (mkF m 146 #[.val (.int p0), .val (.int p1), .val (.int p2), .val (.int p3), .val (.ref a92), .val (.int z93), .val (.int z94), .val (.int (p1 &&& (15 : Int32))), .val (.int (p1 &&& (15 : Int32))), .val (.int ((p3 &&& (255 : Int32)).toUInt32.toUInt16.toUInt32.toInt32)), .val (.int ((((p3.toUInt32 >>> ((8 : Int32) &&& 31).toUInt32).toInt32) &&& (255 : Int32)).toUInt32.toUInt16.toUInt32.toInt32)), .val (.ref x99), .val (.ref x101), .val .null] [(.ref aS)])) st122 ?_
          refine own_stW (g' := (mkF m 187 #[.val (.int p0), .val (.int p1), .val (.int p2), .val (.int p3), .val (.ref a92), .val (.int z93), .val (.int z94), .val (.int (p1 &&& (15 : Int32))), .val (.int (p1 &&& (15 : Int32))), .val (.int ((p3 &&& (255 : Int32)).toUInt32.toUInt16.toUInt32.toInt32)), .val (.int ((((p3.toUInt32 >>> ((8 : Int32) &&& 31).toUInt32).toInt32) &&& (255 : Int32)).toUInt32.toUInt16.toUInt32.toInt32)), .val (.ref x99), .val (.ref x101), .val (.ref aS)] [(.ref x101)])) (fun _ q => XS.astore X122.here hx rfl (hb hby at_146) rfl rfl (l' := #[.val (.int p0), .val (.int p1), .val (.int p2), .val (.int p3), .val (.ref a92), .val (.int z93), .val (.int z94), .val (.int (p1 &&& (15 : Int32))), .val (.int (p1 &&& (15 : Int32))), .val (.int ((p3 &&& (255 : Int32)).toUInt32.toUInt16.toUInt32.toInt32)), .val (.int ((((p3.toUInt32 >>> ((8 : Int32) &&& 31).toUInt32).toInt32) &&& (255 : Int32)).toUInt32.toUInt16.toUInt32.toInt32)), .val (.ref x99), .val (.ref x101), .val (.ref aS)]) rfl (XS.goto X122.here hx rfl (pc0 := 148) (pc' := 166) rfl (hb hby at_148) (by decide) (by decide) (XS.aload X122.here hx rfl (hb hby at_166) rfl rfl (XS.ifnonnullYes X122.here hx rfl (pc0 := 168) (pc' := 185) rfl (hb hby at_168) rfl (by decide) (by decide) (XS.aload X122.here hx rfl (hb hby at_185) rfl rfl (q)))))) ?_
          have Fo123 : Fld Z h103 x101 "java/util/Optional" "value" "Ljava/lang/Object;" (.ref aS) := by have F := (F101.ext E103); rw [if_pos (own_r1 hr104 hc105).symm] at F; exact F
          obtain ⟨r124, hr124⟩ : ∃ z : Int32, z = own_f_isp1 := ⟨_, rfl⟩
          have K124 : own_Bk l room_1 p e below (s.setVm T103.vm) #[(.int p0), (.int p1), (.int p2), (.int p3)] (⟨"java/util/Optional", "isPresent", "()Z"⟩ : MethodName) 0 h103 #[(.ref x101)] 0 0 (fun v h L => v = some (.int r124) ∧ L = [] ∧ h = h103) := backOf (s := (s.setVm T103.vm)) (R := room_1) (W := 0) (Q := (fun v h L => v = some (.int r124) ∧ L = [] ∧ h = h103)) (rm := ({ frames := 0, cells := 0, slots := 0, locals := 0 } : Room)) (own_rm_isp1 l Z a0 hw [] x101 aS r124 h103 Fo123 (by rw [hr124])) w103.2.1 (hw _ (List.mem_of_getElem? (i := 115) rfl)) (hw _ (List.mem_of_getElem? (i := 106) rfl)) (by decide) (by decide)
          obtain ⟨T125, X125, e125, st125⟩ := own_pure (own_cV X122 hx w103.2.1 w103.2.2.1 (hw _ (List.mem_of_getElem? (i := 111) rfl)) (hw _ (List.mem_of_getElem? (i := 112) rfl)) (notFace_of_selects (args := #[]) (mvT w103.2.1 (hw _ (List.mem_of_getElem? (i := 114) rfl)))) (hw _ (List.mem_of_getElem? (i := 114) rfl)) (hw _ (List.mem_of_getElem? (i := 113) rfl)) (by decide) e122 (h := h103) (b := x101) (E101.ext E103) (argsL := []) (rest := []) K124 (pc := 187) (Ls := #[.val (.int p0), .val (.int p1), .val (.int p2), .val (.int p3), .val (.ref a92), .val (.int z93), .val (.int z94), .val (.int (p1 &&& (15 : Int32))), .val (.int (p1 &&& (15 : Int32))), .val (.int ((p3 &&& (255 : Int32)).toUInt32.toUInt16.toUInt32.toInt32)), .val (.int ((((p3.toUInt32 >>> ((8 : Int32) &&& 31).toUInt32).toInt32) &&& (255 : Int32)).toUInt32.toUInt16.toUInt32.toInt32)), .val (.ref x99), .val (.ref x101), .val (.ref aS)]) (by rw [hml]; rfl) (lenOf own_pd13 rfl) rfl (Nat.le_of_eq rfl) (hb hby at_187) (by decide) (by decide))
          refine own_stW (g' := (mkF m 190 #[.val (.int p0), .val (.int p1), .val (.int p2), .val (.int p3), .val (.ref a92), .val (.int z93), .val (.int z94), .val (.int (p1 &&& (15 : Int32))), .val (.int (p1 &&& (15 : Int32))), .val (.int ((p3 &&& (255 : Int32)).toUInt32.toUInt16.toUInt32.toInt32)), .val (.int ((((p3.toUInt32 >>> ((8 : Int32) &&& 31).toUInt32).toInt32) &&& (255 : Int32)).toUInt32.toUInt16.toUInt32.toInt32)), .val (.ref x99), .val (.ref x101), .val (.ref aS)] [(.int r124)])) st125 ?_
          refine own_stW (g' := (mkF m 195 #[.val (.int p0), .val (.int p1), .val (.int p2), .val (.int p3), .val (.ref a92), .val (.int z93), .val (.int z94), .val (.int (p1 &&& (15 : Int32))), .val (.int (p1 &&& (15 : Int32))), .val (.int ((p3 &&& (255 : Int32)).toUInt32.toUInt16.toUInt32.toInt32)), .val (.int ((((p3.toUInt32 >>> ((8 : Int32) &&& 31).toUInt32).toInt32) &&& (255 : Int32)).toUInt32.toUInt16.toUInt32.toInt32)), .val (.ref x99), .val (.ref x101), .val (.ref aS)] [(.ref x101)])) (fun _ q => XS.ifNo X125.here hx rfl (hb hby at_190) rfl ((if0 _ _).trans (feq (by rw [hr124]; decide)).1) (XS.aload X125.here hx rfl (hb hby at_193) rfl rfl (q))) ?_
          have Fo126 : Fld Z h103 x101 "java/util/Optional" "value" "Ljava/lang/Object;" (.ref aS) := by have F := (F101.ext E103); rw [if_pos (own_r1 hr104 hc105).symm] at F; exact F
          have K127 : own_Bk l room_1 p e below (s.setVm T103.vm) #[(.int p0), (.int p1), (.int p2), (.int p3)] (⟨"java/util/Optional", "get", "()Ljava/lang/Object;"⟩ : MethodName) 0 h103 #[(.ref x101)] 0 0 (fun v h L => v = some (.ref aS) ∧ L = [] ∧ h = h103) := backOf (s := (s.setVm T103.vm)) (R := room_1) (W := 0) (Q := (fun v h L => v = some (.ref aS) ∧ L = [] ∧ h = h103)) (rm := ({ frames := 0, cells := 0, slots := 0, locals := 0 } : Room)) (own_rm_get l Z a0 hw [] x101 aS  h103 Fo126 ) w103.2.1 (hw _ (List.mem_of_getElem? (i := 137) rfl)) (hw _ (List.mem_of_getElem? (i := 106) rfl)) (by decide) (by decide)
          obtain ⟨T128, X128, e128, st128⟩ := own_pure (own_cV X125 hx w103.2.1 w103.2.2.1 (hw _ (List.mem_of_getElem? (i := 133) rfl)) (hw _ (List.mem_of_getElem? (i := 134) rfl)) (notFace_of_selects (args := #[]) (mvT w103.2.1 (hw _ (List.mem_of_getElem? (i := 136) rfl)))) (hw _ (List.mem_of_getElem? (i := 136) rfl)) (hw _ (List.mem_of_getElem? (i := 135) rfl)) (by decide) e125 (h := h103) (b := x101) (E101.ext E103) (argsL := []) (rest := []) K127 (pc := 195) (Ls := #[.val (.int p0), .val (.int p1), .val (.int p2), .val (.int p3), .val (.ref a92), .val (.int z93), .val (.int z94), .val (.int (p1 &&& (15 : Int32))), .val (.int (p1 &&& (15 : Int32))), .val (.int ((p3 &&& (255 : Int32)).toUInt32.toUInt16.toUInt32.toInt32)), .val (.int ((((p3.toUInt32 >>> ((8 : Int32) &&& 31).toUInt32).toInt32) &&& (255 : Int32)).toUInt32.toUInt16.toUInt32.toInt32)), .val (.ref x99), .val (.ref x101), .val (.ref aS)]) (by rw [hml]; rfl) (lenOf own_pd14 rfl) rfl (Nat.le_of_eq rfl) (hb hby at_195) (by decide) (by decide))
          refine own_stW (g' := (mkF m 198 #[.val (.int p0), .val (.int p1), .val (.int p2), .val (.int p3), .val (.ref a92), .val (.int z93), .val (.int z94), .val (.int (p1 &&& (15 : Int32))), .val (.int (p1 &&& (15 : Int32))), .val (.int ((p3 &&& (255 : Int32)).toUInt32.toUInt16.toUInt32.toInt32)), .val (.int ((((p3.toUInt32 >>> ((8 : Int32) &&& 31).toUInt32).toInt32) &&& (255 : Int32)).toUInt32.toUInt16.toUInt32.toInt32)), .val (.ref x99), .val (.ref x101), .val (.ref aS)] [(.ref aS)])) st128 ?_
          refine own_stW (g' := (mkF m 200 #[.val (.int p0), .val (.int p1), .val (.int p2), .val (.int p3), .val (.ref a92), .val (.int z93), .val (.int z94), .val (.int (p1 &&& (15 : Int32))), .val (.int (p1 &&& (15 : Int32))), .val (.int ((p3 &&& (255 : Int32)).toUInt32.toUInt16.toUInt32.toInt32)), .val (.int ((((p3.toUInt32 >>> ((8 : Int32) &&& 31).toUInt32).toInt32) &&& (255 : Int32)).toUInt32.toUInt16.toUInt32.toInt32)), .val (.ref x99), .val (.ref x101), .val (.ref aS)] [(.ref aS), (.ref aS)])) (fun _ q => XS.aload X128.here hx rfl (hb hby at_198) rfl rfl (q)) ?_
          refine own_stW (g' := (mkF m 205 #[.val (.int p0), .val (.int p1), .val (.int p2), .val (.int p3), .val (.ref a92), .val (.int z93), .val (.int z94), .val (.int (p1 &&& (15 : Int32))), .val (.int (p1 &&& (15 : Int32))), .val (.int ((p3 &&& (255 : Int32)).toUInt32.toUInt16.toUInt32.toInt32)), .val (.int ((((p3.toUInt32 >>> ((8 : Int32) &&& 31).toUInt32).toInt32) &&& (255 : Int32)).toUInt32.toUInt16.toUInt32.toInt32)), .val (.ref x99), .val (.ref x101), .val (.ref aS)] [(.ref aS)])) (fun _ q => Jvm.RoadKit.acmp (g := (mkF m 200 #[.val (.int p0), .val (.int p1), .val (.int p2), .val (.int p3), .val (.ref a92), .val (.int z93), .val (.int z94), .val (.int (p1 &&& (15 : Int32))), .val (.int (p1 &&& (15 : Int32))), .val (.int ((p3 &&& (255 : Int32)).toUInt32.toUInt16.toUInt32.toInt32)), .val (.int ((((p3.toUInt32 >>> ((8 : Int32) &&& 31).toUInt32).toInt32) &&& (255 : Int32)).toUInt32.toUInt16.toUInt32.toInt32)), .val (.ref x99), .val (.ref x101), .val (.ref aS)] [(.ref aS), (.ref aS)])) X128 hx rfl rfl rfl (pc0 := 200) (pc' := 203) (same := true) rfl (hb hby at_200) rfl (decide_eq_true rfl) (by decide) (by decide) (XS.aload X128.here hx rfl (hb hby at_203) rfl rfl (q))) ?_
          have K129 : own_Bk l room_1 p e below (s.setVm T103.vm) #[(.int p0), (.int p1), (.int p2), (.int p3)] (⟨"org/proofstand/runner/VmMode", "word", "()Ljava/lang/String;"⟩ : MethodName) 0 h103 #[(.ref aS)] 0 0 (fun v h L => v = some (.ref wS) ∧ L = [] ∧ h = h103) := backOf (s := (s.setVm T103.vm)) (R := room_1) (W := 0) (Q := (fun v h L => v = some (.ref wS) ∧ L = [] ∧ h = h103)) (rm := ({ frames := 0, cells := 0, slots := 0, locals := 0 } : Room)) (own_rm_word l Z a0 hw [] aS wS  h103 (MS.ext ((((X00.ext E92).keep K99 all0).keep K101 all0).ext E103).2) ) w103.2.1 (hw _ (List.mem_of_getElem? (i := 142) rfl)) (hw _ (List.mem_of_getElem? (i := 74) rfl)) (by decide) (by decide)
          obtain ⟨T130, X130, e130, st130⟩ := own_pure (own_cV X128 hx w103.2.1 w103.2.2.1 (hw _ (List.mem_of_getElem? (i := 138) rfl)) (hw _ (List.mem_of_getElem? (i := 139) rfl)) (notFace_of_selects (args := #[]) (mvT w103.2.1 (hw _ (List.mem_of_getElem? (i := 141) rfl)))) (hw _ (List.mem_of_getElem? (i := 141) rfl)) (hw _ (List.mem_of_getElem? (i := 140) rfl)) (by decide) e128 (h := h103) (b := aS) (EMS.ext ((((X00.ext E92).keep K99 all0).keep K101 all0).ext E103).2) (argsL := []) (rest := []) K129 (pc := 205) (Ls := #[.val (.int p0), .val (.int p1), .val (.int p2), .val (.int p3), .val (.ref a92), .val (.int z93), .val (.int z94), .val (.int (p1 &&& (15 : Int32))), .val (.int (p1 &&& (15 : Int32))), .val (.int ((p3 &&& (255 : Int32)).toUInt32.toUInt16.toUInt32.toInt32)), .val (.int ((((p3.toUInt32 >>> ((8 : Int32) &&& 31).toUInt32).toInt32) &&& (255 : Int32)).toUInt32.toUInt16.toUInt32.toInt32)), .val (.ref x99), .val (.ref x101), .val (.ref aS)]) (by rw [hml]; rfl) (lenOf own_pd15 rfl) rfl (Nat.le_of_eq rfl) (hb hby at_205) (by decide) (by decide))
          refine own_stW (g' := (mkF m 208 #[.val (.int p0), .val (.int p1), .val (.int p2), .val (.int p3), .val (.ref a92), .val (.int z93), .val (.int z94), .val (.int (p1 &&& (15 : Int32))), .val (.int (p1 &&& (15 : Int32))), .val (.int ((p3 &&& (255 : Int32)).toUInt32.toUInt16.toUInt32.toInt32)), .val (.int ((((p3.toUInt32 >>> ((8 : Int32) &&& 31).toUInt32).toInt32) &&& (255 : Int32)).toUInt32.toUInt16.toUInt32.toInt32)), .val (.ref x99), .val (.ref x101), .val (.ref aS)] [(.ref wS)])) st130 ?_
          refine own_stW (g' := (mkF m 210 #[.val (.int p0), .val (.int p1), .val (.int p2), .val (.int p3), .val (.ref a92), .val (.int z93), .val (.int z94), .val (.int (p1 &&& (15 : Int32))), .val (.int (p1 &&& (15 : Int32))), .val (.int ((p3 &&& (255 : Int32)).toUInt32.toUInt16.toUInt32.toInt32)), .val (.int ((((p3.toUInt32 >>> ((8 : Int32) &&& 31).toUInt32).toInt32) &&& (255 : Int32)).toUInt32.toUInt16.toUInt32.toInt32)), .val (.ref x99), .val (.ref x101), .val (.ref aS)] [(.ref x99), (.ref wS)])) (fun _ q => XS.aload X130.here hx rfl (hb hby at_208) rfl rfl (q)) ?_
          have K131 : own_Bk l room_1 p e below (s.setVm T103.vm) #[(.int p0), (.int p1), (.int p2), (.int p3)] (⟨"java/lang/String", "equals", "(Ljava/lang/Object;)Z"⟩ : MethodName) 0 h103 #[(.ref wS), (.ref x99)] 0 0 (fun v h L => ((v = some (.int 1) ∧ own_shared = cs99) ∨ (v = some (.int 0) ∧ ¬ own_shared = cs99)) ∧ L = [] ∧ h = h103) := StrChars.Road.eqW (s := (s.setVm T103.vm)) (W := 0) w103.2.1 (own_heq hw) (kI := 4) (hw _ (List.mem_of_getElem? (i := 2) rfl)) (ES.ext ((((X00.ext E92).keep K99 all0).keep K101 all0).ext E103).2) (FS.ext ((((X00.ext E92).keep K99 all0).keep K101 all0).ext E103).2) (CS.ext ((((X00.ext E92).keep K99 all0).keep K101 all0).ext E103).2) (KS.ext ((((X00.ext E92).keep K99 all0).keep K101 all0).ext E103).2) own_codS own_hbS (by decide) ((E99.keep K101).ext E103) ((F99.keep K101 nin0).ext E103) ((Cd99.keep K101 nin0).ext E103) ((A99.keep K101 nin0).ext E103) cod99 hb99 l299 (O.ext ((((X00.ext E92).keep K99 all0).keep K101 all0).ext E103).2) hz (by decide) (by decide)
          obtain ⟨v131, T131, hv131, X131, e131, st131⟩ := own_pureE (A := fun v => ((v = some (.int 1) ∧ own_shared = cs99) ∨ (v = some (.int 0) ∧ ¬ own_shared = cs99))) (own_cV X130 hx w103.2.1 w103.2.2.1 (hw _ (List.mem_of_getElem? (i := 109) rfl)) (hw _ (List.mem_of_getElem? (i := 96) rfl)) (notFace_of_selects (args := #[]) (mvT w103.2.1 (hw _ (List.mem_of_getElem? (i := 98) rfl)))) (hw _ (List.mem_of_getElem? (i := 98) rfl)) (hw _ (List.mem_of_getElem? (i := 97) rfl)) (by decide) e130 (h := h103) (b := wS) (ES.ext ((((X00.ext E92).keep K99 all0).keep K101 all0).ext E103).2) (argsL := [(.ref x99)]) (rest := []) K131 (pc := 210) (Ls := #[.val (.int p0), .val (.int p1), .val (.int p2), .val (.int p3), .val (.ref a92), .val (.int z93), .val (.int z94), .val (.int (p1 &&& (15 : Int32))), .val (.int (p1 &&& (15 : Int32))), .val (.int ((p3 &&& (255 : Int32)).toUInt32.toUInt16.toUInt32.toInt32)), .val (.int ((((p3.toUInt32 >>> ((8 : Int32) &&& 31).toUInt32).toInt32) &&& (255 : Int32)).toUInt32.toUInt16.toUInt32.toInt32)), .val (.ref x99), .val (.ref x101), .val (.ref aS)]) (by rw [hml]; rfl) (lenOf own_pd8 rfl) rfl (Nat.le_of_eq rfl) (hb hby at_210) (by decide) (by decide))
          obtain ⟨r131, hr131, rfl⟩ := own_eq01 hv131
          refine own_stW (g' := (mkF m 213 #[.val (.int p0), .val (.int p1), .val (.int p2), .val (.int p3), .val (.ref a92), .val (.int z93), .val (.int z94), .val (.int (p1 &&& (15 : Int32))), .val (.int (p1 &&& (15 : Int32))), .val (.int ((p3 &&& (255 : Int32)).toUInt32.toUInt16.toUInt32.toInt32)), .val (.int ((((p3.toUInt32 >>> ((8 : Int32) &&& 31).toUInt32).toInt32) &&& (255 : Int32)).toUInt32.toUInt16.toUInt32.toInt32)), .val (.ref x99), .val (.ref x101), .val (.ref aS)] [(.int r131)])) st131 ?_
          refine own_stW (g' := (mkF m 221 #[.val (.int p0), .val (.int p1), .val (.int p2), .val (.int p3), .val (.ref a92), .val (.int z93), .val (.int z94), .val (.int (p1 &&& (15 : Int32))), .val (.int (p1 &&& (15 : Int32))), .val (.int ((p3 &&& (255 : Int32)).toUInt32.toUInt16.toUInt32.toInt32)), .val (.int ((((p3.toUInt32 >>> ((8 : Int32) &&& 31).toUInt32).toInt32) &&& (255 : Int32)).toUInt32.toUInt16.toUInt32.toInt32)), .val (.ref x99), .val (.ref x101), .val (.ref aS)] [(.int (1 : Int32))])) (fun _ q => XS.ifNo X131.here hx rfl (hb hby at_213) rfl ((if0 _ _).trans (feq (fun q => own_r0 hr131 q (own_r1 hr104 hc105).symm)).1) (XS.iconst X131.here hx rfl (hb hby at_216) (XS.goto X131.here hx rfl (pc0 := 217) (pc' := 221) rfl (hb hby at_217) (by decide) (by decide) (q)))) ?_
          exact own_goWN X131 hh w103 hEL e131 hlk hx (t := .boolean) (by simp) Bd.returns (hb hby at_221) ⟨rfl, N101⟩ (by decide) (by decide)
      · -- not: z94 = (0 : Int32)
        refine own_stW (g' := (mkF m 120 #[.val (.int p0), .val (.int p1), .val (.int p2), .val (.int p3), .val (.ref a92), .val (.int z93), .val (.int z94), .val (.int (p1 &&& (15 : Int32))), .val (.int (p1 &&& (15 : Int32))), .val (.int ((p3 &&& (255 : Int32)).toUInt32.toUInt16.toUInt32.toInt32)), .val (.int ((((p3.toUInt32 >>> ((8 : Int32) &&& 31).toUInt32).toInt32) &&& (255 : Int32)).toUInt32.toUInt16.toUInt32.toInt32)), .val .null, .unset, .unset] [.null])) (fun _ q => XS.ifNo X92.here hx rfl (hb hby at_92) rfl ((if0 _ _).trans (feq hc96).1) (XS.aconstNull X92.here hx rfl (hb hby at_95) (XS.goto X92.here hx rfl (pc0 := 96) (pc' := 116) rfl (hb hby at_96) (by decide) (by decide) (XS.astore X92.here hx rfl (hb hby at_116) rfl rfl (l' := #[.val (.int p0), .val (.int p1), .val (.int p2), .val (.int p3), .val (.ref a92), .val (.int z93), .val (.int z94), .val (.int (p1 &&& (15 : Int32))), .val (.int (p1 &&& (15 : Int32))), .val (.int ((p3 &&& (255 : Int32)).toUInt32.toUInt16.toUInt32.toInt32)), .val (.int ((((p3.toUInt32 >>> ((8 : Int32) &&& 31).toUInt32).toInt32) &&& (255 : Int32)).toUInt32.toUInt16.toUInt32.toInt32)), .val .null, .unset, .unset]) rfl (XS.aload X92.here hx rfl (hb hby at_118) rfl rfl (q)))))) ?_
        have K132 : own_Bk l room_1 p e below (s.setVm T92.vm) #[(.int p0), (.int p1), (.int p2), (.int p3)] (⟨"org/proofstand/runner/VmMode", "named", "(Ljava/lang/String;)Ljava/util/Optional;"⟩ : MethodName) 0 h92 #[.null] 1 2 (own_Q_namedN Z aV aS aF aE wS tS wF tF kv kS kF z n0 h92) := backOf (s := (s.setVm T92.vm)) (R := room_1) (W := 0) (Q := (own_Q_namedN Z aV aS aF aE wS tS wF tF kv kS kF z n0 h92)) (rm := ({ frames := 2, cells := 1, slots := 2, locals := 25 } : Room)) (own_rm_namedN l Z a0 hw [] aV aS aF aE wS tS wF tF kv kS kF z n0 h92 (Nat.le_trans Z0 E92.1) (X00.ext E92) O hz OV VV EV OE EE FE ES FS CS KS MS EMS EF FF CF KF MF EMF) w92.2.1 (hw _ (List.mem_of_getElem? (i := 75) rfl)) (hw _ (List.mem_of_getElem? (i := 74) rfl)) (by decide) (by decide)
        obtain ⟨_, L133, T133, X133, ⟨N133q, K133, x133, rfl, E133, F133⟩, st133⟩ := own_cS X92 hx w92.2.1 w92.2.2.1 (hw _ (List.mem_of_getElem? (i := 72) rfl)) (hw _ (List.mem_of_getElem? (i := 73) rfl)) (hw _ (List.mem_of_getElem? (i := 74) rfl)) (hw _ (List.mem_of_getElem? (i := 75) rfl)) (by decide) e92 (h := h92) (argsL := [.null]) (rest := []) K132 (pc := 120) (Ls := #[.val (.int p0), .val (.int p1), .val (.int p2), .val (.int p3), .val (.ref a92), .val (.int z93), .val (.int z94), .val (.int (p1 &&& (15 : Int32))), .val (.int (p1 &&& (15 : Int32))), .val (.int ((p3 &&& (255 : Int32)).toUInt32.toUInt16.toUInt32.toInt32)), .val (.int ((((p3.toUInt32 >>> ((8 : Int32) &&& 31).toUInt32).toInt32) &&& (255 : Int32)).toUInt32.toUInt16.toUInt32.toInt32)), .val .null, .unset, .unset]) (by rw [hml]; rfl) (lenOf own_pd12 rfl) rfl (Nat.le_of_eq rfl) (hb hby at_120) (by decide) (by decide)
        have N133 := Fr.app N0 N133q
        have w134 := w92.keep K133 sf0
        refine own_stW (g' := (mkF m 123 #[.val (.int p0), .val (.int p1), .val (.int p2), .val (.int p3), .val (.ref a92), .val (.int z93), .val (.int z94), .val (.int (p1 &&& (15 : Int32))), .val (.int (p1 &&& (15 : Int32))), .val (.int ((p3 &&& (255 : Int32)).toUInt32.toUInt16.toUInt32.toInt32)), .val (.int ((((p3.toUInt32 >>> ((8 : Int32) &&& 31).toUInt32).toInt32) &&& (255 : Int32)).toUInt32.toUInt16.toUInt32.toInt32)), .val .null, .unset, .unset] [(.ref x133)])) st133 ?_
        refine own_stW (g' := (mkF m 173 #[.val (.int p0), .val (.int p1), .val (.int p2), .val (.int p3), .val (.ref a92), .val (.int z93), .val (.int z94), .val (.int (p1 &&& (15 : Int32))), .val (.int (p1 &&& (15 : Int32))), .val (.int ((p3 &&& (255 : Int32)).toUInt32.toUInt16.toUInt32.toInt32)), .val (.int ((((p3.toUInt32 >>> ((8 : Int32) &&& 31).toUInt32).toInt32) &&& (255 : Int32)).toUInt32.toUInt16.toUInt32.toInt32)), .val .null, .val (.ref x133), .val .null] [(.ref x133)])) (fun _ q => XS.astore X133.here hx rfl (hb hby at_123) rfl rfl (l' := #[.val (.int p0), .val (.int p1), .val (.int p2), .val (.int p3), .val (.ref a92), .val (.int z93), .val (.int z94), .val (.int (p1 &&& (15 : Int32))), .val (.int (p1 &&& (15 : Int32))), .val (.int ((p3 &&& (255 : Int32)).toUInt32.toUInt16.toUInt32.toInt32)), .val (.int ((((p3.toUInt32 >>> ((8 : Int32) &&& 31).toUInt32).toInt32) &&& (255 : Int32)).toUInt32.toUInt16.toUInt32.toInt32)), .val .null, .val (.ref x133), .unset]) rfl (XS.aconstNull X133.here hx rfl (hb hby at_125) (XS.astore X133.here hx rfl (hb hby at_126) rfl rfl (l' := #[.val (.int p0), .val (.int p1), .val (.int p2), .val (.int p3), .val (.ref a92), .val (.int z93), .val (.int z94), .val (.int (p1 &&& (15 : Int32))), .val (.int (p1 &&& (15 : Int32))), .val (.int ((p3 &&& (255 : Int32)).toUInt32.toUInt16.toUInt32.toInt32)), .val (.int ((((p3.toUInt32 >>> ((8 : Int32) &&& 31).toUInt32).toInt32) &&& (255 : Int32)).toUInt32.toUInt16.toUInt32.toInt32)), .val .null, .val (.ref x133), .val .null]) rfl (XS.aload X133.here hx rfl (hb hby at_128) rfl rfl (XS.ifnullYes X133.here hx rfl (pc0 := 130) (pc' := 166) rfl (hb hby at_130) rfl (by decide) (by decide) (XS.aload X133.here hx rfl (hb hby at_166) rfl rfl (XS.ifnonnullNo X133.here hx rfl (hb hby at_168) rfl (XS.aload X133.here hx rfl (hb hby at_171) rfl rfl (q))))))))) ?_
        obtain ⟨r136, hr136⟩ : ∃ z : Int32, z = own_f_isp0 := ⟨_, rfl⟩
        have K136 : own_Bk l room_1 p e below (s.setVm T92.vm) #[(.int p0), (.int p1), (.int p2), (.int p3)] (⟨"java/util/Optional", "isPresent", "()Z"⟩ : MethodName) 0 T133.heap #[(.ref x133)] 0 0 (fun v h L => v = some (.int r136) ∧ L = [] ∧ h = T133.heap) := backOf (s := (s.setVm T92.vm)) (R := room_1) (W := 0) (Q := (fun v h L => v = some (.int r136) ∧ L = [] ∧ h = T133.heap)) (rm := ({ frames := 0, cells := 0, slots := 0, locals := 0 } : Room)) (own_rm_isp0 l Z a0 hw [] x133 r136 T133.heap F133 (by rw [hr136])) w134.2.1 (hw _ (List.mem_of_getElem? (i := 115) rfl)) (hw _ (List.mem_of_getElem? (i := 106) rfl)) (by decide) (by decide)
        obtain ⟨T137, X137, e137, st137⟩ := own_pure (own_cV X133 hx w134.2.1 w134.2.2.1 (hw _ (List.mem_of_getElem? (i := 111) rfl)) (hw _ (List.mem_of_getElem? (i := 112) rfl)) (notFace_of_selects (args := #[]) (mvT w134.2.1 (hw _ (List.mem_of_getElem? (i := 114) rfl)))) (hw _ (List.mem_of_getElem? (i := 114) rfl)) (hw _ (List.mem_of_getElem? (i := 113) rfl)) (by decide) rfl (h := T133.heap) (b := x133) E133 (argsL := []) (rest := []) K136 (pc := 173) (Ls := #[.val (.int p0), .val (.int p1), .val (.int p2), .val (.int p3), .val (.ref a92), .val (.int z93), .val (.int z94), .val (.int (p1 &&& (15 : Int32))), .val (.int (p1 &&& (15 : Int32))), .val (.int ((p3 &&& (255 : Int32)).toUInt32.toUInt16.toUInt32.toInt32)), .val (.int ((((p3.toUInt32 >>> ((8 : Int32) &&& 31).toUInt32).toInt32) &&& (255 : Int32)).toUInt32.toUInt16.toUInt32.toInt32)), .val .null, .val (.ref x133), .val .null]) (by rw [hml]; rfl) (lenOf own_pd13 rfl) rfl (Nat.le_of_eq rfl) (hb hby at_173) (by decide) (by decide))
        refine own_stW (g' := (mkF m 176 #[.val (.int p0), .val (.int p1), .val (.int p2), .val (.int p3), .val (.ref a92), .val (.int z93), .val (.int z94), .val (.int (p1 &&& (15 : Int32))), .val (.int (p1 &&& (15 : Int32))), .val (.int ((p3 &&& (255 : Int32)).toUInt32.toUInt16.toUInt32.toInt32)), .val (.int ((((p3.toUInt32 >>> ((8 : Int32) &&& 31).toUInt32).toInt32) &&& (255 : Int32)).toUInt32.toUInt16.toUInt32.toInt32)), .val .null, .val (.ref x133), .val .null] [(.int r136)])) st137 ?_
        refine own_stW (g' := (mkF m 184 #[.val (.int p0), .val (.int p1), .val (.int p2), .val (.int p3), .val (.ref a92), .val (.int z93), .val (.int z94), .val (.int (p1 &&& (15 : Int32))), .val (.int (p1 &&& (15 : Int32))), .val (.int ((p3 &&& (255 : Int32)).toUInt32.toUInt16.toUInt32.toInt32)), .val (.int ((((p3.toUInt32 >>> ((8 : Int32) &&& 31).toUInt32).toInt32) &&& (255 : Int32)).toUInt32.toUInt16.toUInt32.toInt32)), .val .null, .val (.ref x133), .val .null] [(.int (1 : Int32))])) (fun _ q => XS.ifNo X137.here hx rfl (hb hby at_176) rfl ((if0 _ _).trans (teq (by rw [hr136]; decide)).2) (XS.iconst X137.here hx rfl (hb hby at_179) (XS.goto X137.here hx rfl (pc0 := 180) (pc' := 184) rfl (hb hby at_180) (by decide) (by decide) (q)))) ?_
        exact own_goWN X137 hh w134 hEL e137 hlk hx (t := .boolean) (by simp) Bd.returns (hb hby at_184) ⟨rfl, N133⟩ (by decide) (by decide)
    · -- not: (p1 &&& (15 : Int32)) < (8 : Int32)
      refine own_stW (g' := (mkF m 66 #[.val (.int p0), .val (.int p1), .val (.int p2), .val (.int p3), .val (.ref a92), .val (.int z93), .val (.int z94), .val (.int (p1 &&& (15 : Int32))), .unset, .unset, .unset, .unset, .unset, .unset] [(.ref a92)])) (fun _ q => XS.icmpYes X92.here hx rfl (pc0 := 56) (pc' := 64) rfl (hb hby at_56) rfl (flt hc95).2.1 (by decide) (by decide) (XS.aload X92.here hx rfl (hb hby at_64) rfl rfl (q))) ?_
      have K138 : own_Bk l room_1 p e below (s.setVm T92.vm) #[(.int p0), (.int p1), (.int p2), (.int p3)] (⟨"java/lang/String", "length", "()I"⟩ : MethodName) 0 h92 #[(.ref a92)] 0 0 (fun v h L => v = some (.int (Int32.ofNat own_fresh.length)) ∧ L = [] ∧ h = h92) := StrChars.Road.lenW (s := (s.setVm T92.vm)) (W := 0) w92.2.1 (own_hln hw) (kI := 4) (hw _ (List.mem_of_getElem? (i := 2) rfl)) Ea92 Fa92 Ca92 Va92 own_codF own_hbF (O.ext (X00.ext E92).2) hz (by decide) (by decide) (by decide)
      obtain ⟨T139, X139, e139, st139⟩ := own_pure (own_cV X92 hx w92.2.1 w92.2.2.1 (hw _ (List.mem_of_getElem? (i := 15) rfl)) (hw _ (List.mem_of_getElem? (i := 16) rfl)) (notFace_of_selects (args := #[]) (mvT w92.2.1 (hw _ (List.mem_of_getElem? (i := 18) rfl)))) (hw _ (List.mem_of_getElem? (i := 18) rfl)) (hw _ (List.mem_of_getElem? (i := 17) rfl)) (by decide) e92 (h := h92) (b := a92) Ea92 (argsL := []) (rest := []) K138 (pc := 66) (Ls := #[.val (.int p0), .val (.int p1), .val (.int p2), .val (.int p3), .val (.ref a92), .val (.int z93), .val (.int z94), .val (.int (p1 &&& (15 : Int32))), .unset, .unset, .unset, .unset, .unset, .unset]) (by rw [hml]; rfl) (lenOf own_pd0 rfl) rfl (Nat.le_of_eq rfl) (hb hby at_66) (by decide) (by decide))
      refine own_stW (g' := (mkF m 69 #[.val (.int p0), .val (.int p1), .val (.int p2), .val (.int p3), .val (.ref a92), .val (.int z93), .val (.int z94), .val (.int (p1 &&& (15 : Int32))), .unset, .unset, .unset, .unset, .unset, .unset] [(.int (Int32.ofNat own_fresh.length))])) st139 ?_
      refine own_stW (g' := (mkF m 92 #[.val (.int p0), .val (.int p1), .val (.int p2), .val (.int p3), .val (.ref a92), .val (.int z93), .val (.int z94), .val (.int (p1 &&& (15 : Int32))), .val (.int (Int32.ofNat own_fresh.length)), .val (.int ((p3 &&& (255 : Int32)).toUInt32.toUInt16.toUInt32.toInt32)), .val (.int ((((p3.toUInt32 >>> ((8 : Int32) &&& 31).toUInt32).toInt32) &&& (255 : Int32)).toUInt32.toUInt16.toUInt32.toInt32)), .unset, .unset, .unset] [(.int z94)])) (fun _ q => XS.istore X139.here hx rfl (hb hby at_69) rfl (l' := #[.val (.int p0), .val (.int p1), .val (.int p2), .val (.int p3), .val (.ref a92), .val (.int z93), .val (.int z94), .val (.int (p1 &&& (15 : Int32))), .val (.int (Int32.ofNat own_fresh.length)), .unset, .unset, .unset, .unset, .unset]) rfl (XS.iloadN X139.here hx rfl (hb hby at_71) rfl (XS.sipush X139.here hx rfl (hb hby at_72) (XS.iand X139.here hx rfl (hb hby at_75) rfl (XS.i2c X139.here hx rfl (hb hby at_76) rfl (XS.istore X139.here hx rfl (hb hby at_77) rfl (l' := #[.val (.int p0), .val (.int p1), .val (.int p2), .val (.int p3), .val (.ref a92), .val (.int z93), .val (.int z94), .val (.int (p1 &&& (15 : Int32))), .val (.int (Int32.ofNat own_fresh.length)), .val (.int ((p3 &&& (255 : Int32)).toUInt32.toUInt16.toUInt32.toInt32)), .unset, .unset, .unset, .unset]) rfl (XS.iloadN X139.here hx rfl (hb hby at_79) rfl (XS.bipush X139.here hx rfl (hb hby at_80) (XS.iushr X139.here hx rfl (hb hby at_82) rfl (XS.sipush X139.here hx rfl (hb hby at_83) (XS.iand X139.here hx rfl (hb hby at_86) rfl (XS.i2c X139.here hx rfl (hb hby at_87) rfl (XS.istore X139.here hx rfl (hb hby at_88) rfl (l' := #[.val (.int p0), .val (.int p1), .val (.int p2), .val (.int p3), .val (.ref a92), .val (.int z93), .val (.int z94), .val (.int (p1 &&& (15 : Int32))), .val (.int (Int32.ofNat own_fresh.length)), .val (.int ((p3 &&& (255 : Int32)).toUInt32.toUInt16.toUInt32.toInt32)), .val (.int ((((p3.toUInt32 >>> ((8 : Int32) &&& 31).toUInt32).toInt32) &&& (255 : Int32)).toUInt32.toUInt16.toUInt32.toInt32)), .unset, .unset, .unset]) rfl (XS.iload X139.here hx rfl (hb hby at_90) rfl (q))))))))))))))) ?_
      by_cases hc140 : z94 = (0 : Int32)
      · -- z94 = (0 : Int32)
        refine own_stW (g' := (mkF m 113 #[.val (.int p0), .val (.int p1), .val (.int p2), .val (.int p3), .val (.ref a92), .val (.int z93), .val (.int z94), .val (.int (p1 &&& (15 : Int32))), .val (.int (Int32.ofNat own_fresh.length)), .val (.int ((p3 &&& (255 : Int32)).toUInt32.toUInt16.toUInt32.toInt32)), .val (.int ((((p3.toUInt32 >>> ((8 : Int32) &&& 31).toUInt32).toInt32) &&& (255 : Int32)).toUInt32.toUInt16.toUInt32.toInt32)), .unset, .unset, .unset] [(.int ((((p3.toUInt32 >>> ((8 : Int32) &&& 31).toUInt32).toInt32) &&& (255 : Int32)).toUInt32.toUInt16.toUInt32.toInt32)), (.int ((p3 &&& (255 : Int32)).toUInt32.toUInt16.toUInt32.toInt32)), (.int z93), (.int (p2 &&& (7 : Int32))), (.int (Int32.ofNat own_fresh.length)), (.ref a92)])) (fun _ q => XS.ifYes X139.here hx rfl (pc0 := 92) (pc' := 99) rfl (hb hby at_92) rfl ((if0 _ _).trans (teq hc140).1) (by decide) (by decide) (XS.aload X139.here hx rfl (hb hby at_99) rfl rfl (XS.iload X139.here hx rfl (hb hby at_101) rfl (XS.iloadN X139.here hx rfl (hb hby at_103) rfl (XS.bipush X139.here hx rfl (hb hby at_104) (XS.iand X139.here hx rfl (hb hby at_106) rfl (XS.iload X139.here hx rfl (hb hby at_107) rfl (XS.iload X139.here hx rfl (hb hby at_109) rfl (XS.iload X139.here hx rfl (hb hby at_111) rfl (q)))))))))) ?_
        obtain ⟨d0, hd0⟩ : ∃ z : Int32, z = nar .char (own_f_at own_fresh 0 (0 : Int32) (p2 &&& (7 : Int32)) z93 ((p3 &&& (255 : Int32)).toUInt32.toUInt16.toUInt32.toInt32) ((((p3.toUInt32 >>> ((8 : Int32) &&& 31).toUInt32).toInt32) &&& (255 : Int32)).toUInt32.toUInt16.toUInt32.toInt32)) := ⟨_, rfl⟩
        have gd0 : ¬ d0 < 0 ∧ ¬ (255 : Int32) < d0 := by rw [hd0]; exact own_at_rng _ _ _ _ _ _ _ own_shF (own_and255 _) (own_and255 _)
        obtain ⟨d1, hd1⟩ : ∃ z : Int32, z = nar .char (own_f_at own_fresh 1 (1 : Int32) (p2 &&& (7 : Int32)) z93 ((p3 &&& (255 : Int32)).toUInt32.toUInt16.toUInt32.toInt32) ((((p3.toUInt32 >>> ((8 : Int32) &&& 31).toUInt32).toInt32) &&& (255 : Int32)).toUInt32.toUInt16.toUInt32.toInt32)) := ⟨_, rfl⟩
        have gd1 : ¬ d1 < 0 ∧ ¬ (255 : Int32) < d1 := by rw [hd1]; exact own_at_rng _ _ _ _ _ _ _ own_shF (own_and255 _) (own_and255 _)
        obtain ⟨d2, hd2⟩ : ∃ z : Int32, z = nar .char (own_f_at own_fresh 2 (2 : Int32) (p2 &&& (7 : Int32)) z93 ((p3 &&& (255 : Int32)).toUInt32.toUInt16.toUInt32.toInt32) ((((p3.toUInt32 >>> ((8 : Int32) &&& 31).toUInt32).toInt32) &&& (255 : Int32)).toUInt32.toUInt16.toUInt32.toInt32)) := ⟨_, rfl⟩
        have gd2 : ¬ d2 < 0 ∧ ¬ (255 : Int32) < d2 := by rw [hd2]; exact own_at_rng _ _ _ _ _ _ _ own_shF (own_and255 _) (own_and255 _)
        obtain ⟨d3, hd3⟩ : ∃ z : Int32, z = nar .char (own_f_at own_fresh 3 (3 : Int32) (p2 &&& (7 : Int32)) z93 ((p3 &&& (255 : Int32)).toUInt32.toUInt16.toUInt32.toInt32) ((((p3.toUInt32 >>> ((8 : Int32) &&& 31).toUInt32).toInt32) &&& (255 : Int32)).toUInt32.toUInt16.toUInt32.toInt32)) := ⟨_, rfl⟩
        have gd3 : ¬ d3 < 0 ∧ ¬ (255 : Int32) < d3 := by rw [hd3]; exact own_at_rng _ _ _ _ _ _ _ own_shF (own_and255 _) (own_and255 _)
        obtain ⟨d4, hd4⟩ : ∃ z : Int32, z = nar .char (own_f_at own_fresh 4 (4 : Int32) (p2 &&& (7 : Int32)) z93 ((p3 &&& (255 : Int32)).toUInt32.toUInt16.toUInt32.toInt32) ((((p3.toUInt32 >>> ((8 : Int32) &&& 31).toUInt32).toInt32) &&& (255 : Int32)).toUInt32.toUInt16.toUInt32.toInt32)) := ⟨_, rfl⟩
        have gd4 : ¬ d4 < 0 ∧ ¬ (255 : Int32) < d4 := by rw [hd4]; exact own_at_rng _ _ _ _ _ _ _ own_shF (own_and255 _) (own_and255 _)
        obtain ⟨d5, hd5⟩ : ∃ z : Int32, z = nar .char (own_f_at own_fresh 5 (5 : Int32) (p2 &&& (7 : Int32)) z93 ((p3 &&& (255 : Int32)).toUInt32.toUInt16.toUInt32.toInt32) ((((p3.toUInt32 >>> ((8 : Int32) &&& 31).toUInt32).toInt32) &&& (255 : Int32)).toUInt32.toUInt16.toUInt32.toInt32)) := ⟨_, rfl⟩
        have gd5 : ¬ d5 < 0 ∧ ¬ (255 : Int32) < d5 := by rw [hd5]; exact own_at_rng _ _ _ _ _ _ _ own_shF (own_and255 _) (own_and255 _)
        obtain ⟨d6, hd6⟩ : ∃ z : Int32, z = nar .char (own_f_at own_fresh 6 (6 : Int32) (p2 &&& (7 : Int32)) z93 ((p3 &&& (255 : Int32)).toUInt32.toUInt16.toUInt32.toInt32) ((((p3.toUInt32 >>> ((8 : Int32) &&& 31).toUInt32).toInt32) &&& (255 : Int32)).toUInt32.toUInt16.toUInt32.toInt32)) := ⟨_, rfl⟩
        have gd6 : ¬ d6 < 0 ∧ ¬ (255 : Int32) < d6 := by rw [hd6]; exact own_at_rng _ _ _ _ _ _ _ own_shF (own_and255 _) (own_and255 _)
        have K142 : own_BkW l room_1 p e below s #[(.int p0), (.int p1), (.int p2), (.int p3)] (⟨"org/proofstand/runner/VmModeNamedPinLaw", "build", "(Ljava/lang/String;IIZCC)Ljava/lang/String;"⟩ : MethodName) 0 Z own_EL T92.vm h92 #[(.ref a92), (.int (Int32.ofNat own_fresh.length)), (.int (p2 &&& (7 : Int32))), (.int z93), (.int ((p3 &&& (255 : Int32)).toUInt32.toUInt16.toUInt32.toInt32)), (.int ((((p3.toUInt32 >>> ((8 : Int32) &&& 31).toUInt32).toInt32) &&& (255 : Int32)).toUInt32.toUInt16.toUInt32.toInt32))] 6 18 (own_Q_build Z a92 t92 kb92 own_fresh (5 : Int32) own_vsF (Int32.ofNat own_fresh.length) (p2 &&& (7 : Int32)) z93 ((p3 &&& (255 : Int32)).toUInt32.toUInt16.toUInt32.toInt32) ((((p3.toUInt32 >>> ((8 : Int32) &&& 31).toUInt32).toInt32) &&& (255 : Int32)).toUInt32.toUInt16.toUInt32.toInt32) z d0 d1 d2 d3 d4 d5 d6 fm n0 h92) := own_backW (R := room_1) (W := 0) (Qc := (own_Q_build Z a92 t92 kb92 own_fresh (5 : Int32) own_vsF (Int32.ofNat own_fresh.length) (p2 &&& (7 : Int32)) z93 ((p3 &&& (255 : Int32)).toUInt32.toUInt16.toUInt32.toInt32) ((((p3.toUInt32 >>> ((8 : Int32) &&& 31).toUInt32).toInt32) &&& (255 : Int32)).toUInt32.toUInt16.toUInt32.toInt32) z d0 d1 d2 d3 d4 d5 d6 fm n0 h92)) (rm := ({ frames := 5, cells := 6, slots := 18, locals := 70 } : Room)) (xs := []) (own_rm_build l Z a0 hw [] a92 t92 kb92 own_fresh (5 : Int32) own_vsF (Int32.ofNat own_fresh.length) (p2 &&& (7 : Int32)) z93 ((p3 &&& (255 : Int32)).toUInt32.toUInt16.toUInt32.toInt32) ((((p3.toUInt32 >>> ((8 : Int32) &&& 31).toUInt32).toInt32) &&& (255 : Int32)).toUInt32.toUInt16.toUInt32.toInt32) z d0 d1 d2 d3 d4 d5 d6 fm n0 h92 Ea92 Fa92 Ca92 Va92 own_codF own_hbF (by decide) O hz Om rf (Nat.le_trans Z0 E92.1) (X00.ext E92) hd0 gd0 hd1 gd1 hd2 gd2 hd3 gd3 hd4 gd4 hd5 gd5 hd6 gd6) w92 (hw _ (List.mem_of_getElem? (i := 11) rfl)) (hw _ (List.mem_of_getElem? (i := 10) rfl)) (by decide) (by decide) hEL all0
        obtain ⟨_, L143, T143, X143, ⟨N143q, K143, x143, t143, kb143, N2143, vs143, rfl, u143, E143, F143, Cd143, A143, cod143⟩, w143, C143, st143⟩ := own_cSW X139 hx w92 (hw _ (List.mem_of_getElem? (i := 8) rfl)) (hw _ (List.mem_of_getElem? (i := 9) rfl)) (hw _ (List.mem_of_getElem? (i := 10) rfl)) (hw _ (List.mem_of_getElem? (i := 11) rfl)) (by decide) e139 (h := h92) (argsL := [(.ref a92), (.int (Int32.ofNat own_fresh.length)), (.int (p2 &&& (7 : Int32))), (.int z93), (.int ((p3 &&& (255 : Int32)).toUInt32.toUInt16.toUInt32.toInt32)), (.int ((((p3.toUInt32 >>> ((8 : Int32) &&& 31).toUInt32).toInt32) &&& (255 : Int32)).toUInt32.toUInt16.toUInt32.toInt32))]) (rest := []) K142 (pc := 113) (Ls := #[.val (.int p0), .val (.int p1), .val (.int p2), .val (.int p3), .val (.ref a92), .val (.int z93), .val (.int z94), .val (.int (p1 &&& (15 : Int32))), .val (.int (Int32.ofNat own_fresh.length)), .val (.int ((p3 &&& (255 : Int32)).toUInt32.toUInt16.toUInt32.toInt32)), .val (.int ((((p3.toUInt32 >>> ((8 : Int32) &&& 31).toUInt32).toInt32) &&& (255 : Int32)).toUInt32.toUInt16.toUInt32.toInt32)), .unset, .unset, .unset]) (by rw [hml]; rfl) (lenOf own_pd11 rfl) rfl (Nat.le_of_eq rfl) (hb hby at_113) (by decide) (by decide)
        have N143 := Fr.app N0 N143q
        obtain ⟨cs143, hcs143⟩ : ∃ z, z = own_bs (Int32.ofNat own_fresh.length) d0 d1 d2 d3 d4 d5 d6 := ⟨_, rfl⟩
        rw [← hcs143] at cod143
        have hb143 : ∀ c ∈ cs143, ¬ c < 0 ∧ ¬ (65535 : Int32) < c := by rw [hcs143]; exact own_bs_rng _ _ _ _ _ _ _ _ gd0 gd1 gd2 gd3 gd4 gd5 gd6
        have l2143 : cs143.length ≤ 4000 := by rw [hcs143]; exact own_bs_len _ _ _ _ _ _ _ _
        refine own_stW (g' := (mkF m 116 #[.val (.int p0), .val (.int p1), .val (.int p2), .val (.int p3), .val (.ref a92), .val (.int z93), .val (.int z94), .val (.int (p1 &&& (15 : Int32))), .val (.int (Int32.ofNat own_fresh.length)), .val (.int ((p3 &&& (255 : Int32)).toUInt32.toUInt16.toUInt32.toInt32)), .val (.int ((((p3.toUInt32 >>> ((8 : Int32) &&& 31).toUInt32).toInt32) &&& (255 : Int32)).toUInt32.toUInt16.toUInt32.toInt32)), .unset, .unset, .unset] [(.ref x143)])) st143 ?_
        refine own_stW (g' := (mkF m 120 #[.val (.int p0), .val (.int p1), .val (.int p2), .val (.int p3), .val (.ref a92), .val (.int z93), .val (.int z94), .val (.int (p1 &&& (15 : Int32))), .val (.int (Int32.ofNat own_fresh.length)), .val (.int ((p3 &&& (255 : Int32)).toUInt32.toUInt16.toUInt32.toInt32)), .val (.int ((((p3.toUInt32 >>> ((8 : Int32) &&& 31).toUInt32).toInt32) &&& (255 : Int32)).toUInt32.toUInt16.toUInt32.toInt32)), .val (.ref x143), .unset, .unset] [(.ref x143)])) (fun _ q => XS.astore X143.here hx rfl (hb hby at_116) rfl rfl (l' := #[.val (.int p0), .val (.int p1), .val (.int p2), .val (.int p3), .val (.ref a92), .val (.int z93), .val (.int z94), .val (.int (p1 &&& (15 : Int32))), .val (.int (Int32.ofNat own_fresh.length)), .val (.int ((p3 &&& (255 : Int32)).toUInt32.toUInt16.toUInt32.toInt32)), .val (.int ((((p3.toUInt32 >>> ((8 : Int32) &&& 31).toUInt32).toInt32) &&& (255 : Int32)).toUInt32.toUInt16.toUInt32.toInt32)), .val (.ref x143), .unset, .unset]) rfl (XS.aload X143.here hx rfl (hb hby at_118) rfl rfl (q))) ?_
        have K144 : own_Bk l room_1 p e below (s.setVm T143.vm) #[(.int p0), (.int p1), (.int p2), (.int p3)] (⟨"org/proofstand/runner/VmMode", "named", "(Ljava/lang/String;)Ljava/util/Optional;"⟩ : MethodName) 0 T143.heap #[(.ref x143)] 2 3 (own_Q_named Z x143 t143 kb143 cs143 N2143 vs143 aV aS aF aE wS tS wF tF kv kS kF z n0 T143.heap) := backOf (s := (s.setVm T143.vm)) (R := room_1) (W := 0) (Q := (own_Q_named Z x143 t143 kb143 cs143 N2143 vs143 aV aS aF aE wS tS wF tF kv kS kF z n0 T143.heap)) (rm := ({ frames := 3, cells := 2, slots := 3, locals := 38 } : Room)) (own_rm_named l Z a0 hw [] x143 t143 kb143 cs143 N2143 vs143 aV aS aF aE wS tS wF tF kv kS kF z n0 T143.heap E143 F143 Cd143 A143 cod143 hb143 l2143 (Nat.le_trans Z0 (Nat.le_trans E92.1 K143.1)) ((X00.ext E92).keep K143 all0) O hz OV VV EV OE EE FE ES FS CS KS MS EMS EF FF CF KF MF EMF) w143.2.1 (hw _ (List.mem_of_getElem? (i := 75) rfl)) (hw _ (List.mem_of_getElem? (i := 74) rfl)) (by decide) (by decide)
        obtain ⟨_, L145, T145, X145, ⟨N145q, K145, x145, rfl, E145, F145⟩, st145⟩ := own_cS X143 hx w143.2.1 w143.2.2.1 (hw _ (List.mem_of_getElem? (i := 72) rfl)) (hw _ (List.mem_of_getElem? (i := 73) rfl)) (hw _ (List.mem_of_getElem? (i := 74) rfl)) (hw _ (List.mem_of_getElem? (i := 75) rfl)) (by decide) rfl (h := T143.heap) (argsL := [(.ref x143)]) (rest := []) K144 (pc := 120) (Ls := #[.val (.int p0), .val (.int p1), .val (.int p2), .val (.int p3), .val (.ref a92), .val (.int z93), .val (.int z94), .val (.int (p1 &&& (15 : Int32))), .val (.int (Int32.ofNat own_fresh.length)), .val (.int ((p3 &&& (255 : Int32)).toUInt32.toUInt16.toUInt32.toInt32)), .val (.int ((((p3.toUInt32 >>> ((8 : Int32) &&& 31).toUInt32).toInt32) &&& (255 : Int32)).toUInt32.toUInt16.toUInt32.toInt32)), .val (.ref x143), .unset, .unset]) (by rw [hml]; rfl) (lenOf own_pd12 rfl) rfl (Nat.le_of_eq rfl) (hb hby at_120) (by decide) (by decide)
        have N145 := Fr.app N143 N145q
        have w146 := w143.keep K145 sf0
        refine own_stW (g' := (mkF m 123 #[.val (.int p0), .val (.int p1), .val (.int p2), .val (.int p3), .val (.ref a92), .val (.int z93), .val (.int z94), .val (.int (p1 &&& (15 : Int32))), .val (.int (Int32.ofNat own_fresh.length)), .val (.int ((p3 &&& (255 : Int32)).toUInt32.toUInt16.toUInt32.toInt32)), .val (.int ((((p3.toUInt32 >>> ((8 : Int32) &&& 31).toUInt32).toInt32) &&& (255 : Int32)).toUInt32.toUInt16.toUInt32.toInt32)), .val (.ref x143), .unset, .unset] [(.ref x145)])) st145 ?_
        refine own_stW (g' := (mkF m 135 #[.val (.int p0), .val (.int p1), .val (.int p2), .val (.int p3), .val (.ref a92), .val (.int z93), .val (.int z94), .val (.int (p1 &&& (15 : Int32))), .val (.int (Int32.ofNat own_fresh.length)), .val (.int ((p3 &&& (255 : Int32)).toUInt32.toUInt16.toUInt32.toInt32)), .val (.int ((((p3.toUInt32 >>> ((8 : Int32) &&& 31).toUInt32).toInt32) &&& (255 : Int32)).toUInt32.toUInt16.toUInt32.toInt32)), .val (.ref x143), .val (.ref x145), .val .null] [(.ref x143)])) (fun _ q => XS.astore X145.here hx rfl (hb hby at_123) rfl rfl (l' := #[.val (.int p0), .val (.int p1), .val (.int p2), .val (.int p3), .val (.ref a92), .val (.int z93), .val (.int z94), .val (.int (p1 &&& (15 : Int32))), .val (.int (Int32.ofNat own_fresh.length)), .val (.int ((p3 &&& (255 : Int32)).toUInt32.toUInt16.toUInt32.toInt32)), .val (.int ((((p3.toUInt32 >>> ((8 : Int32) &&& 31).toUInt32).toInt32) &&& (255 : Int32)).toUInt32.toUInt16.toUInt32.toInt32)), .val (.ref x143), .val (.ref x145), .unset]) rfl (XS.aconstNull X145.here hx rfl (hb hby at_125) (XS.astore X145.here hx rfl (hb hby at_126) rfl rfl (l' := #[.val (.int p0), .val (.int p1), .val (.int p2), .val (.int p3), .val (.ref a92), .val (.int z93), .val (.int z94), .val (.int (p1 &&& (15 : Int32))), .val (.int (Int32.ofNat own_fresh.length)), .val (.int ((p3 &&& (255 : Int32)).toUInt32.toUInt16.toUInt32.toInt32)), .val (.int ((((p3.toUInt32 >>> ((8 : Int32) &&& 31).toUInt32).toInt32) &&& (255 : Int32)).toUInt32.toUInt16.toUInt32.toInt32)), .val (.ref x143), .val (.ref x145), .val .null]) rfl (XS.aload X145.here hx rfl (hb hby at_128) rfl rfl (XS.ifnullNo X145.here hx rfl (hb hby at_130) rfl (XS.aload X145.here hx rfl (hb hby at_133) rfl rfl (q))))))) ?_
        obtain ⟨a147, T147, h147, t147, kb147, X147, e147, E147, w147, sf147, Ea147, Ca147, Fa147, Va147, ns147, st147⟩ := own_ldcC X145 hx w146 hEL (hw _ (List.mem_of_getElem? (i := 0) rfl)) hSA rfl (by decide) (vs := [(.int (115 : Int32)), (.int (104 : Int32)), (.int (97 : Int32)), (.int (114 : Int32)), (.int (101 : Int32)), (.int (100 : Int32))]) (z := (6 : Int32)) (by decide) (by decide) rfl (pc := 135) (Ls := #[.val (.int p0), .val (.int p1), .val (.int p2), .val (.int p3), .val (.ref a92), .val (.int z93), .val (.int z94), .val (.int (p1 &&& (15 : Int32))), .val (.int (Int32.ofNat own_fresh.length)), .val (.int ((p3 &&& (255 : Int32)).toUInt32.toUInt16.toUInt32.toInt32)), .val (.int ((((p3.toUInt32 >>> ((8 : Int32) &&& 31).toUInt32).toInt32) &&& (255 : Int32)).toUInt32.toUInt16.toUInt32.toInt32)), .val (.ref x143), .val (.ref x145), .val .null]) (stk := [(.ref x143)]) (hb hby at_135) (n := 24) (by decide) (by decide) (by decide) (by decide)
        refine own_stW (g' := (mkF m 137 #[.val (.int p0), .val (.int p1), .val (.int p2), .val (.int p3), .val (.ref a92), .val (.int z93), .val (.int z94), .val (.int (p1 &&& (15 : Int32))), .val (.int (Int32.ofNat own_fresh.length)), .val (.int ((p3 &&& (255 : Int32)).toUInt32.toUInt16.toUInt32.toInt32)), .val (.int ((((p3.toUInt32 >>> ((8 : Int32) &&& 31).toUInt32).toInt32) &&& (255 : Int32)).toUInt32.toUInt16.toUInt32.toInt32)), .val (.ref x143), .val (.ref x145), .val .null] [(.ref a147), (.ref x143)])) st147 ?_
        have K148 : own_Bk l room_1 p e below (s.setVm T147.vm) #[(.int p0), (.int p1), (.int p2), (.int p3)] (⟨"java/lang/String", "equals", "(Ljava/lang/Object;)Z"⟩ : MethodName) 0 h147 #[(.ref x143), (.ref a147)] 0 0 (fun v h L => ((v = some (.int 1) ∧ cs143 = own_shared) ∨ (v = some (.int 0) ∧ ¬ cs143 = own_shared)) ∧ L = [] ∧ h = h147) := StrChars.Road.eqW (s := (s.setVm T147.vm)) (W := 0) w147.2.1 (own_heq hw) (kI := 4) (hw _ (List.mem_of_getElem? (i := 2) rfl)) ((E143.keep K145).ext E147) ((F143.keep K145 nin0).ext E147) ((Cd143.keep K145 nin0).ext E147) ((A143.keep K145 nin0).ext E147) cod143 hb143 l2143 Ea147 Fa147 Ca147 Va147 own_codS own_hbS (by decide) (O.ext ((((X00.ext E92).keep K143 all0).keep K145 all0).ext E147).2) hz (by decide) (by decide)
        obtain ⟨v148, T148, hv148, X148, e148, st148⟩ := own_pureE (A := fun v => ((v = some (.int 1) ∧ cs143 = own_shared) ∨ (v = some (.int 0) ∧ ¬ cs143 = own_shared))) (own_cV X147 hx w147.2.1 w147.2.2.1 (hw _ (List.mem_of_getElem? (i := 109) rfl)) (hw _ (List.mem_of_getElem? (i := 96) rfl)) (notFace_of_selects (args := #[]) (mvT w147.2.1 (hw _ (List.mem_of_getElem? (i := 98) rfl)))) (hw _ (List.mem_of_getElem? (i := 98) rfl)) (hw _ (List.mem_of_getElem? (i := 97) rfl)) (by decide) e147 (h := h147) (b := x143) ((E143.keep K145).ext E147) (argsL := [(.ref a147)]) (rest := []) K148 (pc := 137) (Ls := #[.val (.int p0), .val (.int p1), .val (.int p2), .val (.int p3), .val (.ref a92), .val (.int z93), .val (.int z94), .val (.int (p1 &&& (15 : Int32))), .val (.int (Int32.ofNat own_fresh.length)), .val (.int ((p3 &&& (255 : Int32)).toUInt32.toUInt16.toUInt32.toInt32)), .val (.int ((((p3.toUInt32 >>> ((8 : Int32) &&& 31).toUInt32).toInt32) &&& (255 : Int32)).toUInt32.toUInt16.toUInt32.toInt32)), .val (.ref x143), .val (.ref x145), .val .null]) (by rw [hml]; rfl) (lenOf own_pd8 rfl) rfl (Nat.le_of_eq rfl) (hb hby at_137) (by decide) (by decide))
        obtain ⟨r148, hr148, rfl⟩ := own_eq01 hv148
        refine own_stW (g' := (mkF m 140 #[.val (.int p0), .val (.int p1), .val (.int p2), .val (.int p3), .val (.ref a92), .val (.int z93), .val (.int z94), .val (.int (p1 &&& (15 : Int32))), .val (.int (Int32.ofNat own_fresh.length)), .val (.int ((p3 &&& (255 : Int32)).toUInt32.toUInt16.toUInt32.toInt32)), .val (.int ((((p3.toUInt32 >>> ((8 : Int32) &&& 31).toUInt32).toInt32) &&& (255 : Int32)).toUInt32.toUInt16.toUInt32.toInt32)), .val (.ref x143), .val (.ref x145), .val .null] [(.int r148)])) st148 ?_
        by_cases hc149 : r148 = (0 : Int32)
        · -- r148 = (0 : Int32)
          refine own_stW (g' := (mkF m 153 #[.val (.int p0), .val (.int p1), .val (.int p2), .val (.int p3), .val (.ref a92), .val (.int z93), .val (.int z94), .val (.int (p1 &&& (15 : Int32))), .val (.int (Int32.ofNat own_fresh.length)), .val (.int ((p3 &&& (255 : Int32)).toUInt32.toUInt16.toUInt32.toInt32)), .val (.int ((((p3.toUInt32 >>> ((8 : Int32) &&& 31).toUInt32).toInt32) &&& (255 : Int32)).toUInt32.toUInt16.toUInt32.toInt32)), .val (.ref x143), .val (.ref x145), .val .null] [(.ref x143)])) (fun _ q => XS.ifYes X148.here hx rfl (pc0 := 140) (pc' := 151) rfl (hb hby at_140) rfl ((if0 _ _).trans (teq hc149).1) (by decide) (by decide) (XS.aload X148.here hx rfl (hb hby at_151) rfl rfl (q))) ?_
          obtain ⟨a150, T150, h150, t150, kb150, X150, e150, E150, w150, sf150, Ea150, Ca150, Fa150, Va150, ns150, st150⟩ := own_ldcC X148 hx w147 hEL (hw _ (List.mem_of_getElem? (i := 110) rfl)) hSA e148 (by decide) (vs := [(.int (102 : Int32)), (.int (114 : Int32)), (.int (101 : Int32)), (.int (115 : Int32)), (.int (104 : Int32))]) (z := (5 : Int32)) (by decide) (by decide) rfl (pc := 153) (Ls := #[.val (.int p0), .val (.int p1), .val (.int p2), .val (.int p3), .val (.ref a92), .val (.int z93), .val (.int z94), .val (.int (p1 &&& (15 : Int32))), .val (.int (Int32.ofNat own_fresh.length)), .val (.int ((p3 &&& (255 : Int32)).toUInt32.toUInt16.toUInt32.toInt32)), .val (.int ((((p3.toUInt32 >>> ((8 : Int32) &&& 31).toUInt32).toInt32) &&& (255 : Int32)).toUInt32.toUInt16.toUInt32.toInt32)), .val (.ref x143), .val (.ref x145), .val .null]) (stk := [(.ref x143)]) (hb hby at_153) (n := 20) (by decide) (by decide) (by decide) (by decide)
          refine own_stW (g' := (mkF m 155 #[.val (.int p0), .val (.int p1), .val (.int p2), .val (.int p3), .val (.ref a92), .val (.int z93), .val (.int z94), .val (.int (p1 &&& (15 : Int32))), .val (.int (Int32.ofNat own_fresh.length)), .val (.int ((p3 &&& (255 : Int32)).toUInt32.toUInt16.toUInt32.toInt32)), .val (.int ((((p3.toUInt32 >>> ((8 : Int32) &&& 31).toUInt32).toInt32) &&& (255 : Int32)).toUInt32.toUInt16.toUInt32.toInt32)), .val (.ref x143), .val (.ref x145), .val .null] [(.ref a150), (.ref x143)])) st150 ?_
          have K151 : own_Bk l room_1 p e below (s.setVm T150.vm) #[(.int p0), (.int p1), (.int p2), (.int p3)] (⟨"java/lang/String", "equals", "(Ljava/lang/Object;)Z"⟩ : MethodName) 0 h150 #[(.ref x143), (.ref a150)] 0 0 (fun v h L => ((v = some (.int 1) ∧ cs143 = own_fresh) ∨ (v = some (.int 0) ∧ ¬ cs143 = own_fresh)) ∧ L = [] ∧ h = h150) := StrChars.Road.eqW (s := (s.setVm T150.vm)) (W := 0) w150.2.1 (own_heq hw) (kI := 4) (hw _ (List.mem_of_getElem? (i := 2) rfl)) (((E143.keep K145).ext E147).ext E150) (((F143.keep K145 nin0).ext E147).ext E150) (((Cd143.keep K145 nin0).ext E147).ext E150) (((A143.keep K145 nin0).ext E147).ext E150) cod143 hb143 l2143 Ea150 Fa150 Ca150 Va150 own_codF own_hbF (by decide) (O.ext (((((X00.ext E92).keep K143 all0).keep K145 all0).ext E147).ext E150).2) hz (by decide) (by decide)
          obtain ⟨v151, T151, hv151, X151, e151, st151⟩ := own_pureE (A := fun v => ((v = some (.int 1) ∧ cs143 = own_fresh) ∨ (v = some (.int 0) ∧ ¬ cs143 = own_fresh))) (own_cV X150 hx w150.2.1 w150.2.2.1 (hw _ (List.mem_of_getElem? (i := 109) rfl)) (hw _ (List.mem_of_getElem? (i := 96) rfl)) (notFace_of_selects (args := #[]) (mvT w150.2.1 (hw _ (List.mem_of_getElem? (i := 98) rfl)))) (hw _ (List.mem_of_getElem? (i := 98) rfl)) (hw _ (List.mem_of_getElem? (i := 97) rfl)) (by decide) e150 (h := h150) (b := x143) (((E143.keep K145).ext E147).ext E150) (argsL := [(.ref a150)]) (rest := []) K151 (pc := 155) (Ls := #[.val (.int p0), .val (.int p1), .val (.int p2), .val (.int p3), .val (.ref a92), .val (.int z93), .val (.int z94), .val (.int (p1 &&& (15 : Int32))), .val (.int (Int32.ofNat own_fresh.length)), .val (.int ((p3 &&& (255 : Int32)).toUInt32.toUInt16.toUInt32.toInt32)), .val (.int ((((p3.toUInt32 >>> ((8 : Int32) &&& 31).toUInt32).toInt32) &&& (255 : Int32)).toUInt32.toUInt16.toUInt32.toInt32)), .val (.ref x143), .val (.ref x145), .val .null]) (by rw [hml]; rfl) (lenOf own_pd8 rfl) rfl (Nat.le_of_eq rfl) (hb hby at_155) (by decide) (by decide))
          obtain ⟨r151, hr151, rfl⟩ := own_eq01 hv151
          refine own_stW (g' := (mkF m 158 #[.val (.int p0), .val (.int p1), .val (.int p2), .val (.int p3), .val (.ref a92), .val (.int z93), .val (.int z94), .val (.int (p1 &&& (15 : Int32))), .val (.int (Int32.ofNat own_fresh.length)), .val (.int ((p3 &&& (255 : Int32)).toUInt32.toUInt16.toUInt32.toInt32)), .val (.int ((((p3.toUInt32 >>> ((8 : Int32) &&& 31).toUInt32).toInt32) &&& (255 : Int32)).toUInt32.toUInt16.toUInt32.toInt32)), .val (.ref x143), .val (.ref x145), .val .null] [(.int r151)])) st151 ?_
          by_cases hc152 : r151 = (0 : Int32)
          · -- r151 = (0 : Int32)
            refine own_stW (g' := (mkF m 173 #[.val (.int p0), .val (.int p1), .val (.int p2), .val (.int p3), .val (.ref a92), .val (.int z93), .val (.int z94), .val (.int (p1 &&& (15 : Int32))), .val (.int (Int32.ofNat own_fresh.length)), .val (.int ((p3 &&& (255 : Int32)).toUInt32.toUInt16.toUInt32.toInt32)), .val (.int ((((p3.toUInt32 >>> ((8 : Int32) &&& 31).toUInt32).toInt32) &&& (255 : Int32)).toUInt32.toUInt16.toUInt32.toInt32)), .val (.ref x143), .val (.ref x145), .val .null] [(.ref x145)])) (fun _ q => XS.ifYes X151.here hx rfl (pc0 := 158) (pc' := 166) rfl (hb hby at_158) rfl ((if0 _ _).trans (teq hc152).1) (by decide) (by decide) (XS.aload X151.here hx rfl (hb hby at_166) rfl rfl (XS.ifnonnullNo X151.here hx rfl (hb hby at_168) rfl (XS.aload X151.here hx rfl (hb hby at_171) rfl rfl (q))))) ?_
            have Fo153 : Fld Z h150 x145 "java/util/Optional" "value" "Ljava/lang/Object;" .null := by have F := ((F145.ext E147).ext E150); rw [if_neg (fun q => own_r0 hr148 hc149 q.symm), if_neg (fun q => own_r0 hr151 hc152 q.symm)] at F; exact F
            obtain ⟨r154, hr154⟩ : ∃ z : Int32, z = own_f_isp0 := ⟨_, rfl⟩
            have K154 : own_Bk l room_1 p e below (s.setVm T150.vm) #[(.int p0), (.int p1), (.int p2), (.int p3)] (⟨"java/util/Optional", "isPresent", "()Z"⟩ : MethodName) 0 h150 #[(.ref x145)] 0 0 (fun v h L => v = some (.int r154) ∧ L = [] ∧ h = h150) := backOf (s := (s.setVm T150.vm)) (R := room_1) (W := 0) (Q := (fun v h L => v = some (.int r154) ∧ L = [] ∧ h = h150)) (rm := ({ frames := 0, cells := 0, slots := 0, locals := 0 } : Room)) (own_rm_isp0 l Z a0 hw [] x145 r154 h150 Fo153 (by rw [hr154])) w150.2.1 (hw _ (List.mem_of_getElem? (i := 115) rfl)) (hw _ (List.mem_of_getElem? (i := 106) rfl)) (by decide) (by decide)
            obtain ⟨T155, X155, e155, st155⟩ := own_pure (own_cV X151 hx w150.2.1 w150.2.2.1 (hw _ (List.mem_of_getElem? (i := 111) rfl)) (hw _ (List.mem_of_getElem? (i := 112) rfl)) (notFace_of_selects (args := #[]) (mvT w150.2.1 (hw _ (List.mem_of_getElem? (i := 114) rfl)))) (hw _ (List.mem_of_getElem? (i := 114) rfl)) (hw _ (List.mem_of_getElem? (i := 113) rfl)) (by decide) e151 (h := h150) (b := x145) ((E145.ext E147).ext E150) (argsL := []) (rest := []) K154 (pc := 173) (Ls := #[.val (.int p0), .val (.int p1), .val (.int p2), .val (.int p3), .val (.ref a92), .val (.int z93), .val (.int z94), .val (.int (p1 &&& (15 : Int32))), .val (.int (Int32.ofNat own_fresh.length)), .val (.int ((p3 &&& (255 : Int32)).toUInt32.toUInt16.toUInt32.toInt32)), .val (.int ((((p3.toUInt32 >>> ((8 : Int32) &&& 31).toUInt32).toInt32) &&& (255 : Int32)).toUInt32.toUInt16.toUInt32.toInt32)), .val (.ref x143), .val (.ref x145), .val .null]) (by rw [hml]; rfl) (lenOf own_pd13 rfl) rfl (Nat.le_of_eq rfl) (hb hby at_173) (by decide) (by decide))
            refine own_stW (g' := (mkF m 176 #[.val (.int p0), .val (.int p1), .val (.int p2), .val (.int p3), .val (.ref a92), .val (.int z93), .val (.int z94), .val (.int (p1 &&& (15 : Int32))), .val (.int (Int32.ofNat own_fresh.length)), .val (.int ((p3 &&& (255 : Int32)).toUInt32.toUInt16.toUInt32.toInt32)), .val (.int ((((p3.toUInt32 >>> ((8 : Int32) &&& 31).toUInt32).toInt32) &&& (255 : Int32)).toUInt32.toUInt16.toUInt32.toInt32)), .val (.ref x143), .val (.ref x145), .val .null] [(.int r154)])) st155 ?_
            refine own_stW (g' := (mkF m 184 #[.val (.int p0), .val (.int p1), .val (.int p2), .val (.int p3), .val (.ref a92), .val (.int z93), .val (.int z94), .val (.int (p1 &&& (15 : Int32))), .val (.int (Int32.ofNat own_fresh.length)), .val (.int ((p3 &&& (255 : Int32)).toUInt32.toUInt16.toUInt32.toInt32)), .val (.int ((((p3.toUInt32 >>> ((8 : Int32) &&& 31).toUInt32).toInt32) &&& (255 : Int32)).toUInt32.toUInt16.toUInt32.toInt32)), .val (.ref x143), .val (.ref x145), .val .null] [(.int (1 : Int32))])) (fun _ q => XS.ifNo X155.here hx rfl (hb hby at_176) rfl ((if0 _ _).trans (teq (by rw [hr154]; decide)).2) (XS.iconst X155.here hx rfl (hb hby at_179) (XS.goto X155.here hx rfl (pc0 := 180) (pc' := 184) rfl (hb hby at_180) (by decide) (by decide) (q)))) ?_
            exact own_goWN X155 hh w150 hEL e155 hlk hx (t := .boolean) (by simp) Bd.returns (hb hby at_184) ⟨rfl, N145⟩ (by decide) (by decide)
          · -- not: r151 = (0 : Int32)
            refine own_stW (g' := (mkF m 161 #[.val (.int p0), .val (.int p1), .val (.int p2), .val (.int p3), .val (.ref a92), .val (.int z93), .val (.int z94), .val (.int (p1 &&& (15 : Int32))), .val (.int (Int32.ofNat own_fresh.length)), .val (.int ((p3 &&& (255 : Int32)).toUInt32.toUInt16.toUInt32.toInt32)), .val (.int ((((p3.toUInt32 >>> ((8 : Int32) &&& 31).toUInt32).toInt32) &&& (255 : Int32)).toUInt32.toUInt16.toUInt32.toInt32)), .val (.ref x143), .val (.ref x145), .val .null] [])) (fun _ q => XS.ifNo X151.here hx rfl (hb hby at_158) rfl ((if0 _ _).trans (feq hc152).1) (q)) ?_
            obtain ⟨T156, X156, e156, st156⟩ := getS2 X151 hx w150.2.1 w150.2.2.1 (host := "") (Or.inl (hw _ (List.mem_of_getElem? (i := 132) rfl))) Via.refl e151 (OF_.ext (((((X00.ext E92).keep K143 all0).keep K145 all0).ext E147).ext E150).2) (g := (mkF m 161 #[.val (.int p0), .val (.int p1), .val (.int p2), .val (.int p3), .val (.ref a92), .val (.int z93), .val (.int z94), .val (.int (p1 &&& (15 : Int32))), .val (.int (Int32.ofNat own_fresh.length)), .val (.int ((p3 &&& (255 : Int32)).toUInt32.toUInt16.toUInt32.toInt32)), .val (.int ((((p3.toUInt32 >>> ((8 : Int32) &&& 31).toUInt32).toInt32) &&& (255 : Int32)).toUInt32.toUInt16.toUInt32.toInt32)), .val (.ref x143), .val (.ref x145), .val .null] [])) rfl (hb hby at_161)
            refine own_stW (g' := (mkF m 164 #[.val (.int p0), .val (.int p1), .val (.int p2), .val (.int p3), .val (.ref a92), .val (.int z93), .val (.int z94), .val (.int (p1 &&& (15 : Int32))), .val (.int (Int32.ofNat own_fresh.length)), .val (.int ((p3 &&& (255 : Int32)).toUInt32.toUInt16.toUInt32.toInt32)), .val (.int ((((p3.toUInt32 >>> ((8 : Int32) &&& 31).toUInt32).toInt32) &&& (255 : Int32)).toUInt32.toUInt16.toUInt32.toInt32)), .val (.ref x143), .val (.ref x145), .val .null] [(.ref aF)])) st156 ?_
            refine own_stW (g' := (mkF m 187 #[.val (.int p0), .val (.int p1), .val (.int p2), .val (.int p3), .val (.ref a92), .val (.int z93), .val (.int z94), .val (.int (p1 &&& (15 : Int32))), .val (.int (Int32.ofNat own_fresh.length)), .val (.int ((p3 &&& (255 : Int32)).toUInt32.toUInt16.toUInt32.toInt32)), .val (.int ((((p3.toUInt32 >>> ((8 : Int32) &&& 31).toUInt32).toInt32) &&& (255 : Int32)).toUInt32.toUInt16.toUInt32.toInt32)), .val (.ref x143), .val (.ref x145), .val (.ref aF)] [(.ref x145)])) (fun _ q => XS.astore X156.here hx rfl (hb hby at_164) rfl rfl (l' := #[.val (.int p0), .val (.int p1), .val (.int p2), .val (.int p3), .val (.ref a92), .val (.int z93), .val (.int z94), .val (.int (p1 &&& (15 : Int32))), .val (.int (Int32.ofNat own_fresh.length)), .val (.int ((p3 &&& (255 : Int32)).toUInt32.toUInt16.toUInt32.toInt32)), .val (.int ((((p3.toUInt32 >>> ((8 : Int32) &&& 31).toUInt32).toInt32) &&& (255 : Int32)).toUInt32.toUInt16.toUInt32.toInt32)), .val (.ref x143), .val (.ref x145), .val (.ref aF)]) rfl (XS.aload X156.here hx rfl (hb hby at_166) rfl rfl (XS.ifnonnullYes X156.here hx rfl (pc0 := 168) (pc' := 185) rfl (hb hby at_168) rfl (by decide) (by decide) (XS.aload X156.here hx rfl (hb hby at_185) rfl rfl (q))))) ?_
            have Fo157 : Fld Z h150 x145 "java/util/Optional" "value" "Ljava/lang/Object;" (.ref aF) := by have F := ((F145.ext E147).ext E150); rw [if_neg (fun q => own_r0 hr148 hc149 q.symm), if_pos (own_r1 hr151 hc152).symm] at F; exact F
            obtain ⟨r158, hr158⟩ : ∃ z : Int32, z = own_f_isp1 := ⟨_, rfl⟩
            have K158 : own_Bk l room_1 p e below (s.setVm T150.vm) #[(.int p0), (.int p1), (.int p2), (.int p3)] (⟨"java/util/Optional", "isPresent", "()Z"⟩ : MethodName) 0 h150 #[(.ref x145)] 0 0 (fun v h L => v = some (.int r158) ∧ L = [] ∧ h = h150) := backOf (s := (s.setVm T150.vm)) (R := room_1) (W := 0) (Q := (fun v h L => v = some (.int r158) ∧ L = [] ∧ h = h150)) (rm := ({ frames := 0, cells := 0, slots := 0, locals := 0 } : Room)) (own_rm_isp1 l Z a0 hw [] x145 aF r158 h150 Fo157 (by rw [hr158])) w150.2.1 (hw _ (List.mem_of_getElem? (i := 115) rfl)) (hw _ (List.mem_of_getElem? (i := 106) rfl)) (by decide) (by decide)
            obtain ⟨T159, X159, e159, st159⟩ := own_pure (own_cV X156 hx w150.2.1 w150.2.2.1 (hw _ (List.mem_of_getElem? (i := 111) rfl)) (hw _ (List.mem_of_getElem? (i := 112) rfl)) (notFace_of_selects (args := #[]) (mvT w150.2.1 (hw _ (List.mem_of_getElem? (i := 114) rfl)))) (hw _ (List.mem_of_getElem? (i := 114) rfl)) (hw _ (List.mem_of_getElem? (i := 113) rfl)) (by decide) e156 (h := h150) (b := x145) ((E145.ext E147).ext E150) (argsL := []) (rest := []) K158 (pc := 187) (Ls := #[.val (.int p0), .val (.int p1), .val (.int p2), .val (.int p3), .val (.ref a92), .val (.int z93), .val (.int z94), .val (.int (p1 &&& (15 : Int32))), .val (.int (Int32.ofNat own_fresh.length)), .val (.int ((p3 &&& (255 : Int32)).toUInt32.toUInt16.toUInt32.toInt32)), .val (.int ((((p3.toUInt32 >>> ((8 : Int32) &&& 31).toUInt32).toInt32) &&& (255 : Int32)).toUInt32.toUInt16.toUInt32.toInt32)), .val (.ref x143), .val (.ref x145), .val (.ref aF)]) (by rw [hml]; rfl) (lenOf own_pd13 rfl) rfl (Nat.le_of_eq rfl) (hb hby at_187) (by decide) (by decide))
            refine own_stW (g' := (mkF m 190 #[.val (.int p0), .val (.int p1), .val (.int p2), .val (.int p3), .val (.ref a92), .val (.int z93), .val (.int z94), .val (.int (p1 &&& (15 : Int32))), .val (.int (Int32.ofNat own_fresh.length)), .val (.int ((p3 &&& (255 : Int32)).toUInt32.toUInt16.toUInt32.toInt32)), .val (.int ((((p3.toUInt32 >>> ((8 : Int32) &&& 31).toUInt32).toInt32) &&& (255 : Int32)).toUInt32.toUInt16.toUInt32.toInt32)), .val (.ref x143), .val (.ref x145), .val (.ref aF)] [(.int r158)])) st159 ?_
            refine own_stW (g' := (mkF m 195 #[.val (.int p0), .val (.int p1), .val (.int p2), .val (.int p3), .val (.ref a92), .val (.int z93), .val (.int z94), .val (.int (p1 &&& (15 : Int32))), .val (.int (Int32.ofNat own_fresh.length)), .val (.int ((p3 &&& (255 : Int32)).toUInt32.toUInt16.toUInt32.toInt32)), .val (.int ((((p3.toUInt32 >>> ((8 : Int32) &&& 31).toUInt32).toInt32) &&& (255 : Int32)).toUInt32.toUInt16.toUInt32.toInt32)), .val (.ref x143), .val (.ref x145), .val (.ref aF)] [(.ref x145)])) (fun _ q => XS.ifNo X159.here hx rfl (hb hby at_190) rfl ((if0 _ _).trans (feq (by rw [hr158]; decide)).1) (XS.aload X159.here hx rfl (hb hby at_193) rfl rfl (q))) ?_
            have Fo160 : Fld Z h150 x145 "java/util/Optional" "value" "Ljava/lang/Object;" (.ref aF) := by have F := ((F145.ext E147).ext E150); rw [if_neg (fun q => own_r0 hr148 hc149 q.symm), if_pos (own_r1 hr151 hc152).symm] at F; exact F
            have K161 : own_Bk l room_1 p e below (s.setVm T150.vm) #[(.int p0), (.int p1), (.int p2), (.int p3)] (⟨"java/util/Optional", "get", "()Ljava/lang/Object;"⟩ : MethodName) 0 h150 #[(.ref x145)] 0 0 (fun v h L => v = some (.ref aF) ∧ L = [] ∧ h = h150) := backOf (s := (s.setVm T150.vm)) (R := room_1) (W := 0) (Q := (fun v h L => v = some (.ref aF) ∧ L = [] ∧ h = h150)) (rm := ({ frames := 0, cells := 0, slots := 0, locals := 0 } : Room)) (own_rm_get l Z a0 hw [] x145 aF  h150 Fo160 ) w150.2.1 (hw _ (List.mem_of_getElem? (i := 137) rfl)) (hw _ (List.mem_of_getElem? (i := 106) rfl)) (by decide) (by decide)
            obtain ⟨T162, X162, e162, st162⟩ := own_pure (own_cV X159 hx w150.2.1 w150.2.2.1 (hw _ (List.mem_of_getElem? (i := 133) rfl)) (hw _ (List.mem_of_getElem? (i := 134) rfl)) (notFace_of_selects (args := #[]) (mvT w150.2.1 (hw _ (List.mem_of_getElem? (i := 136) rfl)))) (hw _ (List.mem_of_getElem? (i := 136) rfl)) (hw _ (List.mem_of_getElem? (i := 135) rfl)) (by decide) e159 (h := h150) (b := x145) ((E145.ext E147).ext E150) (argsL := []) (rest := []) K161 (pc := 195) (Ls := #[.val (.int p0), .val (.int p1), .val (.int p2), .val (.int p3), .val (.ref a92), .val (.int z93), .val (.int z94), .val (.int (p1 &&& (15 : Int32))), .val (.int (Int32.ofNat own_fresh.length)), .val (.int ((p3 &&& (255 : Int32)).toUInt32.toUInt16.toUInt32.toInt32)), .val (.int ((((p3.toUInt32 >>> ((8 : Int32) &&& 31).toUInt32).toInt32) &&& (255 : Int32)).toUInt32.toUInt16.toUInt32.toInt32)), .val (.ref x143), .val (.ref x145), .val (.ref aF)]) (by rw [hml]; rfl) (lenOf own_pd14 rfl) rfl (Nat.le_of_eq rfl) (hb hby at_195) (by decide) (by decide))
            refine own_stW (g' := (mkF m 198 #[.val (.int p0), .val (.int p1), .val (.int p2), .val (.int p3), .val (.ref a92), .val (.int z93), .val (.int z94), .val (.int (p1 &&& (15 : Int32))), .val (.int (Int32.ofNat own_fresh.length)), .val (.int ((p3 &&& (255 : Int32)).toUInt32.toUInt16.toUInt32.toInt32)), .val (.int ((((p3.toUInt32 >>> ((8 : Int32) &&& 31).toUInt32).toInt32) &&& (255 : Int32)).toUInt32.toUInt16.toUInt32.toInt32)), .val (.ref x143), .val (.ref x145), .val (.ref aF)] [(.ref aF)])) st162 ?_
            refine own_stW (g' := (mkF m 200 #[.val (.int p0), .val (.int p1), .val (.int p2), .val (.int p3), .val (.ref a92), .val (.int z93), .val (.int z94), .val (.int (p1 &&& (15 : Int32))), .val (.int (Int32.ofNat own_fresh.length)), .val (.int ((p3 &&& (255 : Int32)).toUInt32.toUInt16.toUInt32.toInt32)), .val (.int ((((p3.toUInt32 >>> ((8 : Int32) &&& 31).toUInt32).toInt32) &&& (255 : Int32)).toUInt32.toUInt16.toUInt32.toInt32)), .val (.ref x143), .val (.ref x145), .val (.ref aF)] [(.ref aF), (.ref aF)])) (fun _ q => XS.aload X162.here hx rfl (hb hby at_198) rfl rfl (q)) ?_
            refine own_stW (g' := (mkF m 205 #[.val (.int p0), .val (.int p1), .val (.int p2), .val (.int p3), .val (.ref a92), .val (.int z93), .val (.int z94), .val (.int (p1 &&& (15 : Int32))), .val (.int (Int32.ofNat own_fresh.length)), .val (.int ((p3 &&& (255 : Int32)).toUInt32.toUInt16.toUInt32.toInt32)), .val (.int ((((p3.toUInt32 >>> ((8 : Int32) &&& 31).toUInt32).toInt32) &&& (255 : Int32)).toUInt32.toUInt16.toUInt32.toInt32)), .val (.ref x143), .val (.ref x145), .val (.ref aF)] [(.ref aF)])) (fun _ q => Jvm.RoadKit.acmp (g := (mkF m 200 #[.val (.int p0), .val (.int p1), .val (.int p2), .val (.int p3), .val (.ref a92), .val (.int z93), .val (.int z94), .val (.int (p1 &&& (15 : Int32))), .val (.int (Int32.ofNat own_fresh.length)), .val (.int ((p3 &&& (255 : Int32)).toUInt32.toUInt16.toUInt32.toInt32)), .val (.int ((((p3.toUInt32 >>> ((8 : Int32) &&& 31).toUInt32).toInt32) &&& (255 : Int32)).toUInt32.toUInt16.toUInt32.toInt32)), .val (.ref x143), .val (.ref x145), .val (.ref aF)] [(.ref aF), (.ref aF)])) X162 hx rfl rfl rfl (pc0 := 200) (pc' := 203) (same := true) rfl (hb hby at_200) rfl (decide_eq_true rfl) (by decide) (by decide) (XS.aload X162.here hx rfl (hb hby at_203) rfl rfl (q))) ?_
            have K163 : own_Bk l room_1 p e below (s.setVm T150.vm) #[(.int p0), (.int p1), (.int p2), (.int p3)] (⟨"org/proofstand/runner/VmMode", "word", "()Ljava/lang/String;"⟩ : MethodName) 0 h150 #[(.ref aF)] 0 0 (fun v h L => v = some (.ref wF) ∧ L = [] ∧ h = h150) := backOf (s := (s.setVm T150.vm)) (R := room_1) (W := 0) (Q := (fun v h L => v = some (.ref wF) ∧ L = [] ∧ h = h150)) (rm := ({ frames := 0, cells := 0, slots := 0, locals := 0 } : Room)) (own_rm_word l Z a0 hw [] aF wF  h150 (MF.ext (((((X00.ext E92).keep K143 all0).keep K145 all0).ext E147).ext E150).2) ) w150.2.1 (hw _ (List.mem_of_getElem? (i := 142) rfl)) (hw _ (List.mem_of_getElem? (i := 74) rfl)) (by decide) (by decide)
            obtain ⟨T164, X164, e164, st164⟩ := own_pure (own_cV X162 hx w150.2.1 w150.2.2.1 (hw _ (List.mem_of_getElem? (i := 138) rfl)) (hw _ (List.mem_of_getElem? (i := 139) rfl)) (notFace_of_selects (args := #[]) (mvT w150.2.1 (hw _ (List.mem_of_getElem? (i := 141) rfl)))) (hw _ (List.mem_of_getElem? (i := 141) rfl)) (hw _ (List.mem_of_getElem? (i := 140) rfl)) (by decide) e162 (h := h150) (b := aF) (EMF.ext (((((X00.ext E92).keep K143 all0).keep K145 all0).ext E147).ext E150).2) (argsL := []) (rest := []) K163 (pc := 205) (Ls := #[.val (.int p0), .val (.int p1), .val (.int p2), .val (.int p3), .val (.ref a92), .val (.int z93), .val (.int z94), .val (.int (p1 &&& (15 : Int32))), .val (.int (Int32.ofNat own_fresh.length)), .val (.int ((p3 &&& (255 : Int32)).toUInt32.toUInt16.toUInt32.toInt32)), .val (.int ((((p3.toUInt32 >>> ((8 : Int32) &&& 31).toUInt32).toInt32) &&& (255 : Int32)).toUInt32.toUInt16.toUInt32.toInt32)), .val (.ref x143), .val (.ref x145), .val (.ref aF)]) (by rw [hml]; rfl) (lenOf own_pd15 rfl) rfl (Nat.le_of_eq rfl) (hb hby at_205) (by decide) (by decide))
            refine own_stW (g' := (mkF m 208 #[.val (.int p0), .val (.int p1), .val (.int p2), .val (.int p3), .val (.ref a92), .val (.int z93), .val (.int z94), .val (.int (p1 &&& (15 : Int32))), .val (.int (Int32.ofNat own_fresh.length)), .val (.int ((p3 &&& (255 : Int32)).toUInt32.toUInt16.toUInt32.toInt32)), .val (.int ((((p3.toUInt32 >>> ((8 : Int32) &&& 31).toUInt32).toInt32) &&& (255 : Int32)).toUInt32.toUInt16.toUInt32.toInt32)), .val (.ref x143), .val (.ref x145), .val (.ref aF)] [(.ref wF)])) st164 ?_
            refine own_stW (g' := (mkF m 210 #[.val (.int p0), .val (.int p1), .val (.int p2), .val (.int p3), .val (.ref a92), .val (.int z93), .val (.int z94), .val (.int (p1 &&& (15 : Int32))), .val (.int (Int32.ofNat own_fresh.length)), .val (.int ((p3 &&& (255 : Int32)).toUInt32.toUInt16.toUInt32.toInt32)), .val (.int ((((p3.toUInt32 >>> ((8 : Int32) &&& 31).toUInt32).toInt32) &&& (255 : Int32)).toUInt32.toUInt16.toUInt32.toInt32)), .val (.ref x143), .val (.ref x145), .val (.ref aF)] [(.ref x143), (.ref wF)])) (fun _ q => XS.aload X164.here hx rfl (hb hby at_208) rfl rfl (q)) ?_
            have K165 : own_Bk l room_1 p e below (s.setVm T150.vm) #[(.int p0), (.int p1), (.int p2), (.int p3)] (⟨"java/lang/String", "equals", "(Ljava/lang/Object;)Z"⟩ : MethodName) 0 h150 #[(.ref wF), (.ref x143)] 0 0 (fun v h L => ((v = some (.int 1) ∧ own_fresh = cs143) ∨ (v = some (.int 0) ∧ ¬ own_fresh = cs143)) ∧ L = [] ∧ h = h150) := StrChars.Road.eqW (s := (s.setVm T150.vm)) (W := 0) w150.2.1 (own_heq hw) (kI := 4) (hw _ (List.mem_of_getElem? (i := 2) rfl)) (EF.ext (((((X00.ext E92).keep K143 all0).keep K145 all0).ext E147).ext E150).2) (FF.ext (((((X00.ext E92).keep K143 all0).keep K145 all0).ext E147).ext E150).2) (CF.ext (((((X00.ext E92).keep K143 all0).keep K145 all0).ext E147).ext E150).2) (KF.ext (((((X00.ext E92).keep K143 all0).keep K145 all0).ext E147).ext E150).2) own_codF own_hbF (by decide) (((E143.keep K145).ext E147).ext E150) (((F143.keep K145 nin0).ext E147).ext E150) (((Cd143.keep K145 nin0).ext E147).ext E150) (((A143.keep K145 nin0).ext E147).ext E150) cod143 hb143 l2143 (O.ext (((((X00.ext E92).keep K143 all0).keep K145 all0).ext E147).ext E150).2) hz (by decide) (by decide)
            obtain ⟨v165, T165, hv165, X165, e165, st165⟩ := own_pureE (A := fun v => ((v = some (.int 1) ∧ own_fresh = cs143) ∨ (v = some (.int 0) ∧ ¬ own_fresh = cs143))) (own_cV X164 hx w150.2.1 w150.2.2.1 (hw _ (List.mem_of_getElem? (i := 109) rfl)) (hw _ (List.mem_of_getElem? (i := 96) rfl)) (notFace_of_selects (args := #[]) (mvT w150.2.1 (hw _ (List.mem_of_getElem? (i := 98) rfl)))) (hw _ (List.mem_of_getElem? (i := 98) rfl)) (hw _ (List.mem_of_getElem? (i := 97) rfl)) (by decide) e164 (h := h150) (b := wF) (EF.ext (((((X00.ext E92).keep K143 all0).keep K145 all0).ext E147).ext E150).2) (argsL := [(.ref x143)]) (rest := []) K165 (pc := 210) (Ls := #[.val (.int p0), .val (.int p1), .val (.int p2), .val (.int p3), .val (.ref a92), .val (.int z93), .val (.int z94), .val (.int (p1 &&& (15 : Int32))), .val (.int (Int32.ofNat own_fresh.length)), .val (.int ((p3 &&& (255 : Int32)).toUInt32.toUInt16.toUInt32.toInt32)), .val (.int ((((p3.toUInt32 >>> ((8 : Int32) &&& 31).toUInt32).toInt32) &&& (255 : Int32)).toUInt32.toUInt16.toUInt32.toInt32)), .val (.ref x143), .val (.ref x145), .val (.ref aF)]) (by rw [hml]; rfl) (lenOf own_pd8 rfl) rfl (Nat.le_of_eq rfl) (hb hby at_210) (by decide) (by decide))
            obtain ⟨r165, hr165, rfl⟩ := own_eq01 hv165
            refine own_stW (g' := (mkF m 213 #[.val (.int p0), .val (.int p1), .val (.int p2), .val (.int p3), .val (.ref a92), .val (.int z93), .val (.int z94), .val (.int (p1 &&& (15 : Int32))), .val (.int (Int32.ofNat own_fresh.length)), .val (.int ((p3 &&& (255 : Int32)).toUInt32.toUInt16.toUInt32.toInt32)), .val (.int ((((p3.toUInt32 >>> ((8 : Int32) &&& 31).toUInt32).toInt32) &&& (255 : Int32)).toUInt32.toUInt16.toUInt32.toInt32)), .val (.ref x143), .val (.ref x145), .val (.ref aF)] [(.int r165)])) st165 ?_
            refine own_stW (g' := (mkF m 221 #[.val (.int p0), .val (.int p1), .val (.int p2), .val (.int p3), .val (.ref a92), .val (.int z93), .val (.int z94), .val (.int (p1 &&& (15 : Int32))), .val (.int (Int32.ofNat own_fresh.length)), .val (.int ((p3 &&& (255 : Int32)).toUInt32.toUInt16.toUInt32.toInt32)), .val (.int ((((p3.toUInt32 >>> ((8 : Int32) &&& 31).toUInt32).toInt32) &&& (255 : Int32)).toUInt32.toUInt16.toUInt32.toInt32)), .val (.ref x143), .val (.ref x145), .val (.ref aF)] [(.int (1 : Int32))])) (fun _ q => XS.ifNo X165.here hx rfl (hb hby at_213) rfl ((if0 _ _).trans (feq (fun q => own_r0 hr165 q (own_r1 hr151 hc152).symm)).1) (XS.iconst X165.here hx rfl (hb hby at_216) (XS.goto X165.here hx rfl (pc0 := 217) (pc' := 221) rfl (hb hby at_217) (by decide) (by decide) (q)))) ?_
            exact own_goWN X165 hh w150 hEL e165 hlk hx (t := .boolean) (by simp) Bd.returns (hb hby at_221) ⟨rfl, N145⟩ (by decide) (by decide)
        · -- not: r148 = (0 : Int32)
          refine own_stW (g' := (mkF m 143 #[.val (.int p0), .val (.int p1), .val (.int p2), .val (.int p3), .val (.ref a92), .val (.int z93), .val (.int z94), .val (.int (p1 &&& (15 : Int32))), .val (.int (Int32.ofNat own_fresh.length)), .val (.int ((p3 &&& (255 : Int32)).toUInt32.toUInt16.toUInt32.toInt32)), .val (.int ((((p3.toUInt32 >>> ((8 : Int32) &&& 31).toUInt32).toInt32) &&& (255 : Int32)).toUInt32.toUInt16.toUInt32.toInt32)), .val (.ref x143), .val (.ref x145), .val .null] [])) (fun _ q => XS.ifNo X148.here hx rfl (hb hby at_140) rfl ((if0 _ _).trans (feq hc149).1) (q)) ?_
          obtain ⟨T166, X166, e166, st166⟩ := getS2 X148 hx w147.2.1 w147.2.2.1 (host := "") (Or.inl (hw _ (List.mem_of_getElem? (i := 143) rfl))) Via.refl e148 (OS.ext ((((X00.ext E92).keep K143 all0).keep K145 all0).ext E147).2) (g := (mkF m 143 #[.val (.int p0), .val (.int p1), .val (.int p2), .val (.int p3), .val (.ref a92), .val (.int z93), .val (.int z94), .val (.int (p1 &&& (15 : Int32))), .val (.int (Int32.ofNat own_fresh.length)), .val (.int ((p3 &&& (255 : Int32)).toUInt32.toUInt16.toUInt32.toInt32)), .val (.int ((((p3.toUInt32 >>> ((8 : Int32) &&& 31).toUInt32).toInt32) &&& (255 : Int32)).toUInt32.toUInt16.toUInt32.toInt32)), .val (.ref x143), .val (.ref x145), .val .null] [])) rfl (hb hby at_143)
          refine own_stW (g' := (mkF m 146 #[.val (.int p0), .val (.int p1), .val (.int p2), .val (.int p3), .val (.ref a92), .val (.int z93), .val (.int z94), .val (.int (p1 &&& (15 : Int32))), .val (.int (Int32.ofNat own_fresh.length)), .val (.int ((p3 &&& (255 : Int32)).toUInt32.toUInt16.toUInt32.toInt32)), .val (.int ((((p3.toUInt32 >>> ((8 : Int32) &&& 31).toUInt32).toInt32) &&& (255 : Int32)).toUInt32.toUInt16.toUInt32.toInt32)), .val (.ref x143), .val (.ref x145), .val .null] [(.ref aS)])) st166 ?_
          refine own_stW (g' := (mkF m 187 #[.val (.int p0), .val (.int p1), .val (.int p2), .val (.int p3), .val (.ref a92), .val (.int z93), .val (.int z94), .val (.int (p1 &&& (15 : Int32))), .val (.int (Int32.ofNat own_fresh.length)), .val (.int ((p3 &&& (255 : Int32)).toUInt32.toUInt16.toUInt32.toInt32)), .val (.int ((((p3.toUInt32 >>> ((8 : Int32) &&& 31).toUInt32).toInt32) &&& (255 : Int32)).toUInt32.toUInt16.toUInt32.toInt32)), .val (.ref x143), .val (.ref x145), .val (.ref aS)] [(.ref x145)])) (fun _ q => XS.astore X166.here hx rfl (hb hby at_146) rfl rfl (l' := #[.val (.int p0), .val (.int p1), .val (.int p2), .val (.int p3), .val (.ref a92), .val (.int z93), .val (.int z94), .val (.int (p1 &&& (15 : Int32))), .val (.int (Int32.ofNat own_fresh.length)), .val (.int ((p3 &&& (255 : Int32)).toUInt32.toUInt16.toUInt32.toInt32)), .val (.int ((((p3.toUInt32 >>> ((8 : Int32) &&& 31).toUInt32).toInt32) &&& (255 : Int32)).toUInt32.toUInt16.toUInt32.toInt32)), .val (.ref x143), .val (.ref x145), .val (.ref aS)]) rfl (XS.goto X166.here hx rfl (pc0 := 148) (pc' := 166) rfl (hb hby at_148) (by decide) (by decide) (XS.aload X166.here hx rfl (hb hby at_166) rfl rfl (XS.ifnonnullYes X166.here hx rfl (pc0 := 168) (pc' := 185) rfl (hb hby at_168) rfl (by decide) (by decide) (XS.aload X166.here hx rfl (hb hby at_185) rfl rfl (q)))))) ?_
          have Fo167 : Fld Z h147 x145 "java/util/Optional" "value" "Ljava/lang/Object;" (.ref aS) := by have F := (F145.ext E147); rw [if_pos (own_r1 hr148 hc149).symm] at F; exact F
          obtain ⟨r168, hr168⟩ : ∃ z : Int32, z = own_f_isp1 := ⟨_, rfl⟩
          have K168 : own_Bk l room_1 p e below (s.setVm T147.vm) #[(.int p0), (.int p1), (.int p2), (.int p3)] (⟨"java/util/Optional", "isPresent", "()Z"⟩ : MethodName) 0 h147 #[(.ref x145)] 0 0 (fun v h L => v = some (.int r168) ∧ L = [] ∧ h = h147) := backOf (s := (s.setVm T147.vm)) (R := room_1) (W := 0) (Q := (fun v h L => v = some (.int r168) ∧ L = [] ∧ h = h147)) (rm := ({ frames := 0, cells := 0, slots := 0, locals := 0 } : Room)) (own_rm_isp1 l Z a0 hw [] x145 aS r168 h147 Fo167 (by rw [hr168])) w147.2.1 (hw _ (List.mem_of_getElem? (i := 115) rfl)) (hw _ (List.mem_of_getElem? (i := 106) rfl)) (by decide) (by decide)
          obtain ⟨T169, X169, e169, st169⟩ := own_pure (own_cV X166 hx w147.2.1 w147.2.2.1 (hw _ (List.mem_of_getElem? (i := 111) rfl)) (hw _ (List.mem_of_getElem? (i := 112) rfl)) (notFace_of_selects (args := #[]) (mvT w147.2.1 (hw _ (List.mem_of_getElem? (i := 114) rfl)))) (hw _ (List.mem_of_getElem? (i := 114) rfl)) (hw _ (List.mem_of_getElem? (i := 113) rfl)) (by decide) e166 (h := h147) (b := x145) (E145.ext E147) (argsL := []) (rest := []) K168 (pc := 187) (Ls := #[.val (.int p0), .val (.int p1), .val (.int p2), .val (.int p3), .val (.ref a92), .val (.int z93), .val (.int z94), .val (.int (p1 &&& (15 : Int32))), .val (.int (Int32.ofNat own_fresh.length)), .val (.int ((p3 &&& (255 : Int32)).toUInt32.toUInt16.toUInt32.toInt32)), .val (.int ((((p3.toUInt32 >>> ((8 : Int32) &&& 31).toUInt32).toInt32) &&& (255 : Int32)).toUInt32.toUInt16.toUInt32.toInt32)), .val (.ref x143), .val (.ref x145), .val (.ref aS)]) (by rw [hml]; rfl) (lenOf own_pd13 rfl) rfl (Nat.le_of_eq rfl) (hb hby at_187) (by decide) (by decide))
          refine own_stW (g' := (mkF m 190 #[.val (.int p0), .val (.int p1), .val (.int p2), .val (.int p3), .val (.ref a92), .val (.int z93), .val (.int z94), .val (.int (p1 &&& (15 : Int32))), .val (.int (Int32.ofNat own_fresh.length)), .val (.int ((p3 &&& (255 : Int32)).toUInt32.toUInt16.toUInt32.toInt32)), .val (.int ((((p3.toUInt32 >>> ((8 : Int32) &&& 31).toUInt32).toInt32) &&& (255 : Int32)).toUInt32.toUInt16.toUInt32.toInt32)), .val (.ref x143), .val (.ref x145), .val (.ref aS)] [(.int r168)])) st169 ?_
          refine own_stW (g' := (mkF m 195 #[.val (.int p0), .val (.int p1), .val (.int p2), .val (.int p3), .val (.ref a92), .val (.int z93), .val (.int z94), .val (.int (p1 &&& (15 : Int32))), .val (.int (Int32.ofNat own_fresh.length)), .val (.int ((p3 &&& (255 : Int32)).toUInt32.toUInt16.toUInt32.toInt32)), .val (.int ((((p3.toUInt32 >>> ((8 : Int32) &&& 31).toUInt32).toInt32) &&& (255 : Int32)).toUInt32.toUInt16.toUInt32.toInt32)), .val (.ref x143), .val (.ref x145), .val (.ref aS)] [(.ref x145)])) (fun _ q => XS.ifNo X169.here hx rfl (hb hby at_190) rfl ((if0 _ _).trans (feq (by rw [hr168]; decide)).1) (XS.aload X169.here hx rfl (hb hby at_193) rfl rfl (q))) ?_
          have Fo170 : Fld Z h147 x145 "java/util/Optional" "value" "Ljava/lang/Object;" (.ref aS) := by have F := (F145.ext E147); rw [if_pos (own_r1 hr148 hc149).symm] at F; exact F
          have K171 : own_Bk l room_1 p e below (s.setVm T147.vm) #[(.int p0), (.int p1), (.int p2), (.int p3)] (⟨"java/util/Optional", "get", "()Ljava/lang/Object;"⟩ : MethodName) 0 h147 #[(.ref x145)] 0 0 (fun v h L => v = some (.ref aS) ∧ L = [] ∧ h = h147) := backOf (s := (s.setVm T147.vm)) (R := room_1) (W := 0) (Q := (fun v h L => v = some (.ref aS) ∧ L = [] ∧ h = h147)) (rm := ({ frames := 0, cells := 0, slots := 0, locals := 0 } : Room)) (own_rm_get l Z a0 hw [] x145 aS  h147 Fo170 ) w147.2.1 (hw _ (List.mem_of_getElem? (i := 137) rfl)) (hw _ (List.mem_of_getElem? (i := 106) rfl)) (by decide) (by decide)
          obtain ⟨T172, X172, e172, st172⟩ := own_pure (own_cV X169 hx w147.2.1 w147.2.2.1 (hw _ (List.mem_of_getElem? (i := 133) rfl)) (hw _ (List.mem_of_getElem? (i := 134) rfl)) (notFace_of_selects (args := #[]) (mvT w147.2.1 (hw _ (List.mem_of_getElem? (i := 136) rfl)))) (hw _ (List.mem_of_getElem? (i := 136) rfl)) (hw _ (List.mem_of_getElem? (i := 135) rfl)) (by decide) e169 (h := h147) (b := x145) (E145.ext E147) (argsL := []) (rest := []) K171 (pc := 195) (Ls := #[.val (.int p0), .val (.int p1), .val (.int p2), .val (.int p3), .val (.ref a92), .val (.int z93), .val (.int z94), .val (.int (p1 &&& (15 : Int32))), .val (.int (Int32.ofNat own_fresh.length)), .val (.int ((p3 &&& (255 : Int32)).toUInt32.toUInt16.toUInt32.toInt32)), .val (.int ((((p3.toUInt32 >>> ((8 : Int32) &&& 31).toUInt32).toInt32) &&& (255 : Int32)).toUInt32.toUInt16.toUInt32.toInt32)), .val (.ref x143), .val (.ref x145), .val (.ref aS)]) (by rw [hml]; rfl) (lenOf own_pd14 rfl) rfl (Nat.le_of_eq rfl) (hb hby at_195) (by decide) (by decide))
          refine own_stW (g' := (mkF m 198 #[.val (.int p0), .val (.int p1), .val (.int p2), .val (.int p3), .val (.ref a92), .val (.int z93), .val (.int z94), .val (.int (p1 &&& (15 : Int32))), .val (.int (Int32.ofNat own_fresh.length)), .val (.int ((p3 &&& (255 : Int32)).toUInt32.toUInt16.toUInt32.toInt32)), .val (.int ((((p3.toUInt32 >>> ((8 : Int32) &&& 31).toUInt32).toInt32) &&& (255 : Int32)).toUInt32.toUInt16.toUInt32.toInt32)), .val (.ref x143), .val (.ref x145), .val (.ref aS)] [(.ref aS)])) st172 ?_
          refine own_stW (g' := (mkF m 200 #[.val (.int p0), .val (.int p1), .val (.int p2), .val (.int p3), .val (.ref a92), .val (.int z93), .val (.int z94), .val (.int (p1 &&& (15 : Int32))), .val (.int (Int32.ofNat own_fresh.length)), .val (.int ((p3 &&& (255 : Int32)).toUInt32.toUInt16.toUInt32.toInt32)), .val (.int ((((p3.toUInt32 >>> ((8 : Int32) &&& 31).toUInt32).toInt32) &&& (255 : Int32)).toUInt32.toUInt16.toUInt32.toInt32)), .val (.ref x143), .val (.ref x145), .val (.ref aS)] [(.ref aS), (.ref aS)])) (fun _ q => XS.aload X172.here hx rfl (hb hby at_198) rfl rfl (q)) ?_
          refine own_stW (g' := (mkF m 205 #[.val (.int p0), .val (.int p1), .val (.int p2), .val (.int p3), .val (.ref a92), .val (.int z93), .val (.int z94), .val (.int (p1 &&& (15 : Int32))), .val (.int (Int32.ofNat own_fresh.length)), .val (.int ((p3 &&& (255 : Int32)).toUInt32.toUInt16.toUInt32.toInt32)), .val (.int ((((p3.toUInt32 >>> ((8 : Int32) &&& 31).toUInt32).toInt32) &&& (255 : Int32)).toUInt32.toUInt16.toUInt32.toInt32)), .val (.ref x143), .val (.ref x145), .val (.ref aS)] [(.ref aS)])) (fun _ q => Jvm.RoadKit.acmp (g := (mkF m 200 #[.val (.int p0), .val (.int p1), .val (.int p2), .val (.int p3), .val (.ref a92), .val (.int z93), .val (.int z94), .val (.int (p1 &&& (15 : Int32))), .val (.int (Int32.ofNat own_fresh.length)), .val (.int ((p3 &&& (255 : Int32)).toUInt32.toUInt16.toUInt32.toInt32)), .val (.int ((((p3.toUInt32 >>> ((8 : Int32) &&& 31).toUInt32).toInt32) &&& (255 : Int32)).toUInt32.toUInt16.toUInt32.toInt32)), .val (.ref x143), .val (.ref x145), .val (.ref aS)] [(.ref aS), (.ref aS)])) X172 hx rfl rfl rfl (pc0 := 200) (pc' := 203) (same := true) rfl (hb hby at_200) rfl (decide_eq_true rfl) (by decide) (by decide) (XS.aload X172.here hx rfl (hb hby at_203) rfl rfl (q))) ?_
          have K173 : own_Bk l room_1 p e below (s.setVm T147.vm) #[(.int p0), (.int p1), (.int p2), (.int p3)] (⟨"org/proofstand/runner/VmMode", "word", "()Ljava/lang/String;"⟩ : MethodName) 0 h147 #[(.ref aS)] 0 0 (fun v h L => v = some (.ref wS) ∧ L = [] ∧ h = h147) := backOf (s := (s.setVm T147.vm)) (R := room_1) (W := 0) (Q := (fun v h L => v = some (.ref wS) ∧ L = [] ∧ h = h147)) (rm := ({ frames := 0, cells := 0, slots := 0, locals := 0 } : Room)) (own_rm_word l Z a0 hw [] aS wS  h147 (MS.ext ((((X00.ext E92).keep K143 all0).keep K145 all0).ext E147).2) ) w147.2.1 (hw _ (List.mem_of_getElem? (i := 142) rfl)) (hw _ (List.mem_of_getElem? (i := 74) rfl)) (by decide) (by decide)
          obtain ⟨T174, X174, e174, st174⟩ := own_pure (own_cV X172 hx w147.2.1 w147.2.2.1 (hw _ (List.mem_of_getElem? (i := 138) rfl)) (hw _ (List.mem_of_getElem? (i := 139) rfl)) (notFace_of_selects (args := #[]) (mvT w147.2.1 (hw _ (List.mem_of_getElem? (i := 141) rfl)))) (hw _ (List.mem_of_getElem? (i := 141) rfl)) (hw _ (List.mem_of_getElem? (i := 140) rfl)) (by decide) e172 (h := h147) (b := aS) (EMS.ext ((((X00.ext E92).keep K143 all0).keep K145 all0).ext E147).2) (argsL := []) (rest := []) K173 (pc := 205) (Ls := #[.val (.int p0), .val (.int p1), .val (.int p2), .val (.int p3), .val (.ref a92), .val (.int z93), .val (.int z94), .val (.int (p1 &&& (15 : Int32))), .val (.int (Int32.ofNat own_fresh.length)), .val (.int ((p3 &&& (255 : Int32)).toUInt32.toUInt16.toUInt32.toInt32)), .val (.int ((((p3.toUInt32 >>> ((8 : Int32) &&& 31).toUInt32).toInt32) &&& (255 : Int32)).toUInt32.toUInt16.toUInt32.toInt32)), .val (.ref x143), .val (.ref x145), .val (.ref aS)]) (by rw [hml]; rfl) (lenOf own_pd15 rfl) rfl (Nat.le_of_eq rfl) (hb hby at_205) (by decide) (by decide))
          refine own_stW (g' := (mkF m 208 #[.val (.int p0), .val (.int p1), .val (.int p2), .val (.int p3), .val (.ref a92), .val (.int z93), .val (.int z94), .val (.int (p1 &&& (15 : Int32))), .val (.int (Int32.ofNat own_fresh.length)), .val (.int ((p3 &&& (255 : Int32)).toUInt32.toUInt16.toUInt32.toInt32)), .val (.int ((((p3.toUInt32 >>> ((8 : Int32) &&& 31).toUInt32).toInt32) &&& (255 : Int32)).toUInt32.toUInt16.toUInt32.toInt32)), .val (.ref x143), .val (.ref x145), .val (.ref aS)] [(.ref wS)])) st174 ?_
          refine own_stW (g' := (mkF m 210 #[.val (.int p0), .val (.int p1), .val (.int p2), .val (.int p3), .val (.ref a92), .val (.int z93), .val (.int z94), .val (.int (p1 &&& (15 : Int32))), .val (.int (Int32.ofNat own_fresh.length)), .val (.int ((p3 &&& (255 : Int32)).toUInt32.toUInt16.toUInt32.toInt32)), .val (.int ((((p3.toUInt32 >>> ((8 : Int32) &&& 31).toUInt32).toInt32) &&& (255 : Int32)).toUInt32.toUInt16.toUInt32.toInt32)), .val (.ref x143), .val (.ref x145), .val (.ref aS)] [(.ref x143), (.ref wS)])) (fun _ q => XS.aload X174.here hx rfl (hb hby at_208) rfl rfl (q)) ?_
          have K175 : own_Bk l room_1 p e below (s.setVm T147.vm) #[(.int p0), (.int p1), (.int p2), (.int p3)] (⟨"java/lang/String", "equals", "(Ljava/lang/Object;)Z"⟩ : MethodName) 0 h147 #[(.ref wS), (.ref x143)] 0 0 (fun v h L => ((v = some (.int 1) ∧ own_shared = cs143) ∨ (v = some (.int 0) ∧ ¬ own_shared = cs143)) ∧ L = [] ∧ h = h147) := StrChars.Road.eqW (s := (s.setVm T147.vm)) (W := 0) w147.2.1 (own_heq hw) (kI := 4) (hw _ (List.mem_of_getElem? (i := 2) rfl)) (ES.ext ((((X00.ext E92).keep K143 all0).keep K145 all0).ext E147).2) (FS.ext ((((X00.ext E92).keep K143 all0).keep K145 all0).ext E147).2) (CS.ext ((((X00.ext E92).keep K143 all0).keep K145 all0).ext E147).2) (KS.ext ((((X00.ext E92).keep K143 all0).keep K145 all0).ext E147).2) own_codS own_hbS (by decide) ((E143.keep K145).ext E147) ((F143.keep K145 nin0).ext E147) ((Cd143.keep K145 nin0).ext E147) ((A143.keep K145 nin0).ext E147) cod143 hb143 l2143 (O.ext ((((X00.ext E92).keep K143 all0).keep K145 all0).ext E147).2) hz (by decide) (by decide)
          obtain ⟨v175, T175, hv175, X175, e175, st175⟩ := own_pureE (A := fun v => ((v = some (.int 1) ∧ own_shared = cs143) ∨ (v = some (.int 0) ∧ ¬ own_shared = cs143))) (own_cV X174 hx w147.2.1 w147.2.2.1 (hw _ (List.mem_of_getElem? (i := 109) rfl)) (hw _ (List.mem_of_getElem? (i := 96) rfl)) (notFace_of_selects (args := #[]) (mvT w147.2.1 (hw _ (List.mem_of_getElem? (i := 98) rfl)))) (hw _ (List.mem_of_getElem? (i := 98) rfl)) (hw _ (List.mem_of_getElem? (i := 97) rfl)) (by decide) e174 (h := h147) (b := wS) (ES.ext ((((X00.ext E92).keep K143 all0).keep K145 all0).ext E147).2) (argsL := [(.ref x143)]) (rest := []) K175 (pc := 210) (Ls := #[.val (.int p0), .val (.int p1), .val (.int p2), .val (.int p3), .val (.ref a92), .val (.int z93), .val (.int z94), .val (.int (p1 &&& (15 : Int32))), .val (.int (Int32.ofNat own_fresh.length)), .val (.int ((p3 &&& (255 : Int32)).toUInt32.toUInt16.toUInt32.toInt32)), .val (.int ((((p3.toUInt32 >>> ((8 : Int32) &&& 31).toUInt32).toInt32) &&& (255 : Int32)).toUInt32.toUInt16.toUInt32.toInt32)), .val (.ref x143), .val (.ref x145), .val (.ref aS)]) (by rw [hml]; rfl) (lenOf own_pd8 rfl) rfl (Nat.le_of_eq rfl) (hb hby at_210) (by decide) (by decide))
          obtain ⟨r175, hr175, rfl⟩ := own_eq01 hv175
          refine own_stW (g' := (mkF m 213 #[.val (.int p0), .val (.int p1), .val (.int p2), .val (.int p3), .val (.ref a92), .val (.int z93), .val (.int z94), .val (.int (p1 &&& (15 : Int32))), .val (.int (Int32.ofNat own_fresh.length)), .val (.int ((p3 &&& (255 : Int32)).toUInt32.toUInt16.toUInt32.toInt32)), .val (.int ((((p3.toUInt32 >>> ((8 : Int32) &&& 31).toUInt32).toInt32) &&& (255 : Int32)).toUInt32.toUInt16.toUInt32.toInt32)), .val (.ref x143), .val (.ref x145), .val (.ref aS)] [(.int r175)])) st175 ?_
          refine own_stW (g' := (mkF m 221 #[.val (.int p0), .val (.int p1), .val (.int p2), .val (.int p3), .val (.ref a92), .val (.int z93), .val (.int z94), .val (.int (p1 &&& (15 : Int32))), .val (.int (Int32.ofNat own_fresh.length)), .val (.int ((p3 &&& (255 : Int32)).toUInt32.toUInt16.toUInt32.toInt32)), .val (.int ((((p3.toUInt32 >>> ((8 : Int32) &&& 31).toUInt32).toInt32) &&& (255 : Int32)).toUInt32.toUInt16.toUInt32.toInt32)), .val (.ref x143), .val (.ref x145), .val (.ref aS)] [(.int (1 : Int32))])) (fun _ q => XS.ifNo X175.here hx rfl (hb hby at_213) rfl ((if0 _ _).trans (feq (fun q => own_r0 hr175 q (own_r1 hr148 hc149).symm)).1) (XS.iconst X175.here hx rfl (hb hby at_216) (XS.goto X175.here hx rfl (pc0 := 217) (pc' := 221) rfl (hb hby at_217) (by decide) (by decide) (q)))) ?_
          exact own_goWN X175 hh w147 hEL e175 hlk hx (t := .boolean) (by simp) Bd.returns (hb hby at_221) ⟨rfl, N145⟩ (by decide) (by decide)
      · -- not: z94 = (0 : Int32)
        refine own_stW (g' := (mkF m 120 #[.val (.int p0), .val (.int p1), .val (.int p2), .val (.int p3), .val (.ref a92), .val (.int z93), .val (.int z94), .val (.int (p1 &&& (15 : Int32))), .val (.int (Int32.ofNat own_fresh.length)), .val (.int ((p3 &&& (255 : Int32)).toUInt32.toUInt16.toUInt32.toInt32)), .val (.int ((((p3.toUInt32 >>> ((8 : Int32) &&& 31).toUInt32).toInt32) &&& (255 : Int32)).toUInt32.toUInt16.toUInt32.toInt32)), .val .null, .unset, .unset] [.null])) (fun _ q => XS.ifNo X139.here hx rfl (hb hby at_92) rfl ((if0 _ _).trans (feq hc140).1) (XS.aconstNull X139.here hx rfl (hb hby at_95) (XS.goto X139.here hx rfl (pc0 := 96) (pc' := 116) rfl (hb hby at_96) (by decide) (by decide) (XS.astore X139.here hx rfl (hb hby at_116) rfl rfl (l' := #[.val (.int p0), .val (.int p1), .val (.int p2), .val (.int p3), .val (.ref a92), .val (.int z93), .val (.int z94), .val (.int (p1 &&& (15 : Int32))), .val (.int (Int32.ofNat own_fresh.length)), .val (.int ((p3 &&& (255 : Int32)).toUInt32.toUInt16.toUInt32.toInt32)), .val (.int ((((p3.toUInt32 >>> ((8 : Int32) &&& 31).toUInt32).toInt32) &&& (255 : Int32)).toUInt32.toUInt16.toUInt32.toInt32)), .val .null, .unset, .unset]) rfl (XS.aload X139.here hx rfl (hb hby at_118) rfl rfl (q)))))) ?_
        have K176 : own_Bk l room_1 p e below (s.setVm T92.vm) #[(.int p0), (.int p1), (.int p2), (.int p3)] (⟨"org/proofstand/runner/VmMode", "named", "(Ljava/lang/String;)Ljava/util/Optional;"⟩ : MethodName) 0 h92 #[.null] 1 2 (own_Q_namedN Z aV aS aF aE wS tS wF tF kv kS kF z n0 h92) := backOf (s := (s.setVm T92.vm)) (R := room_1) (W := 0) (Q := (own_Q_namedN Z aV aS aF aE wS tS wF tF kv kS kF z n0 h92)) (rm := ({ frames := 2, cells := 1, slots := 2, locals := 25 } : Room)) (own_rm_namedN l Z a0 hw [] aV aS aF aE wS tS wF tF kv kS kF z n0 h92 (Nat.le_trans Z0 E92.1) (X00.ext E92) O hz OV VV EV OE EE FE ES FS CS KS MS EMS EF FF CF KF MF EMF) w92.2.1 (hw _ (List.mem_of_getElem? (i := 75) rfl)) (hw _ (List.mem_of_getElem? (i := 74) rfl)) (by decide) (by decide)
        obtain ⟨_, L177, T177, X177, ⟨N177q, K177, x177, rfl, E177, F177⟩, st177⟩ := own_cS X139 hx w92.2.1 w92.2.2.1 (hw _ (List.mem_of_getElem? (i := 72) rfl)) (hw _ (List.mem_of_getElem? (i := 73) rfl)) (hw _ (List.mem_of_getElem? (i := 74) rfl)) (hw _ (List.mem_of_getElem? (i := 75) rfl)) (by decide) e139 (h := h92) (argsL := [.null]) (rest := []) K176 (pc := 120) (Ls := #[.val (.int p0), .val (.int p1), .val (.int p2), .val (.int p3), .val (.ref a92), .val (.int z93), .val (.int z94), .val (.int (p1 &&& (15 : Int32))), .val (.int (Int32.ofNat own_fresh.length)), .val (.int ((p3 &&& (255 : Int32)).toUInt32.toUInt16.toUInt32.toInt32)), .val (.int ((((p3.toUInt32 >>> ((8 : Int32) &&& 31).toUInt32).toInt32) &&& (255 : Int32)).toUInt32.toUInt16.toUInt32.toInt32)), .val .null, .unset, .unset]) (by rw [hml]; rfl) (lenOf own_pd12 rfl) rfl (Nat.le_of_eq rfl) (hb hby at_120) (by decide) (by decide)
        have N177 := Fr.app N0 N177q
        have w178 := w92.keep K177 sf0
        refine own_stW (g' := (mkF m 123 #[.val (.int p0), .val (.int p1), .val (.int p2), .val (.int p3), .val (.ref a92), .val (.int z93), .val (.int z94), .val (.int (p1 &&& (15 : Int32))), .val (.int (Int32.ofNat own_fresh.length)), .val (.int ((p3 &&& (255 : Int32)).toUInt32.toUInt16.toUInt32.toInt32)), .val (.int ((((p3.toUInt32 >>> ((8 : Int32) &&& 31).toUInt32).toInt32) &&& (255 : Int32)).toUInt32.toUInt16.toUInt32.toInt32)), .val .null, .unset, .unset] [(.ref x177)])) st177 ?_
        refine own_stW (g' := (mkF m 173 #[.val (.int p0), .val (.int p1), .val (.int p2), .val (.int p3), .val (.ref a92), .val (.int z93), .val (.int z94), .val (.int (p1 &&& (15 : Int32))), .val (.int (Int32.ofNat own_fresh.length)), .val (.int ((p3 &&& (255 : Int32)).toUInt32.toUInt16.toUInt32.toInt32)), .val (.int ((((p3.toUInt32 >>> ((8 : Int32) &&& 31).toUInt32).toInt32) &&& (255 : Int32)).toUInt32.toUInt16.toUInt32.toInt32)), .val .null, .val (.ref x177), .val .null] [(.ref x177)])) (fun _ q => XS.astore X177.here hx rfl (hb hby at_123) rfl rfl (l' := #[.val (.int p0), .val (.int p1), .val (.int p2), .val (.int p3), .val (.ref a92), .val (.int z93), .val (.int z94), .val (.int (p1 &&& (15 : Int32))), .val (.int (Int32.ofNat own_fresh.length)), .val (.int ((p3 &&& (255 : Int32)).toUInt32.toUInt16.toUInt32.toInt32)), .val (.int ((((p3.toUInt32 >>> ((8 : Int32) &&& 31).toUInt32).toInt32) &&& (255 : Int32)).toUInt32.toUInt16.toUInt32.toInt32)), .val .null, .val (.ref x177), .unset]) rfl (XS.aconstNull X177.here hx rfl (hb hby at_125) (XS.astore X177.here hx rfl (hb hby at_126) rfl rfl (l' := #[.val (.int p0), .val (.int p1), .val (.int p2), .val (.int p3), .val (.ref a92), .val (.int z93), .val (.int z94), .val (.int (p1 &&& (15 : Int32))), .val (.int (Int32.ofNat own_fresh.length)), .val (.int ((p3 &&& (255 : Int32)).toUInt32.toUInt16.toUInt32.toInt32)), .val (.int ((((p3.toUInt32 >>> ((8 : Int32) &&& 31).toUInt32).toInt32) &&& (255 : Int32)).toUInt32.toUInt16.toUInt32.toInt32)), .val .null, .val (.ref x177), .val .null]) rfl (XS.aload X177.here hx rfl (hb hby at_128) rfl rfl (XS.ifnullYes X177.here hx rfl (pc0 := 130) (pc' := 166) rfl (hb hby at_130) rfl (by decide) (by decide) (XS.aload X177.here hx rfl (hb hby at_166) rfl rfl (XS.ifnonnullNo X177.here hx rfl (hb hby at_168) rfl (XS.aload X177.here hx rfl (hb hby at_171) rfl rfl (q))))))))) ?_
        obtain ⟨r180, hr180⟩ : ∃ z : Int32, z = own_f_isp0 := ⟨_, rfl⟩
        have K180 : own_Bk l room_1 p e below (s.setVm T92.vm) #[(.int p0), (.int p1), (.int p2), (.int p3)] (⟨"java/util/Optional", "isPresent", "()Z"⟩ : MethodName) 0 T177.heap #[(.ref x177)] 0 0 (fun v h L => v = some (.int r180) ∧ L = [] ∧ h = T177.heap) := backOf (s := (s.setVm T92.vm)) (R := room_1) (W := 0) (Q := (fun v h L => v = some (.int r180) ∧ L = [] ∧ h = T177.heap)) (rm := ({ frames := 0, cells := 0, slots := 0, locals := 0 } : Room)) (own_rm_isp0 l Z a0 hw [] x177 r180 T177.heap F177 (by rw [hr180])) w178.2.1 (hw _ (List.mem_of_getElem? (i := 115) rfl)) (hw _ (List.mem_of_getElem? (i := 106) rfl)) (by decide) (by decide)
        obtain ⟨T181, X181, e181, st181⟩ := own_pure (own_cV X177 hx w178.2.1 w178.2.2.1 (hw _ (List.mem_of_getElem? (i := 111) rfl)) (hw _ (List.mem_of_getElem? (i := 112) rfl)) (notFace_of_selects (args := #[]) (mvT w178.2.1 (hw _ (List.mem_of_getElem? (i := 114) rfl)))) (hw _ (List.mem_of_getElem? (i := 114) rfl)) (hw _ (List.mem_of_getElem? (i := 113) rfl)) (by decide) rfl (h := T177.heap) (b := x177) E177 (argsL := []) (rest := []) K180 (pc := 173) (Ls := #[.val (.int p0), .val (.int p1), .val (.int p2), .val (.int p3), .val (.ref a92), .val (.int z93), .val (.int z94), .val (.int (p1 &&& (15 : Int32))), .val (.int (Int32.ofNat own_fresh.length)), .val (.int ((p3 &&& (255 : Int32)).toUInt32.toUInt16.toUInt32.toInt32)), .val (.int ((((p3.toUInt32 >>> ((8 : Int32) &&& 31).toUInt32).toInt32) &&& (255 : Int32)).toUInt32.toUInt16.toUInt32.toInt32)), .val .null, .val (.ref x177), .val .null]) (by rw [hml]; rfl) (lenOf own_pd13 rfl) rfl (Nat.le_of_eq rfl) (hb hby at_173) (by decide) (by decide))
        refine own_stW (g' := (mkF m 176 #[.val (.int p0), .val (.int p1), .val (.int p2), .val (.int p3), .val (.ref a92), .val (.int z93), .val (.int z94), .val (.int (p1 &&& (15 : Int32))), .val (.int (Int32.ofNat own_fresh.length)), .val (.int ((p3 &&& (255 : Int32)).toUInt32.toUInt16.toUInt32.toInt32)), .val (.int ((((p3.toUInt32 >>> ((8 : Int32) &&& 31).toUInt32).toInt32) &&& (255 : Int32)).toUInt32.toUInt16.toUInt32.toInt32)), .val .null, .val (.ref x177), .val .null] [(.int r180)])) st181 ?_
        refine own_stW (g' := (mkF m 184 #[.val (.int p0), .val (.int p1), .val (.int p2), .val (.int p3), .val (.ref a92), .val (.int z93), .val (.int z94), .val (.int (p1 &&& (15 : Int32))), .val (.int (Int32.ofNat own_fresh.length)), .val (.int ((p3 &&& (255 : Int32)).toUInt32.toUInt16.toUInt32.toInt32)), .val (.int ((((p3.toUInt32 >>> ((8 : Int32) &&& 31).toUInt32).toInt32) &&& (255 : Int32)).toUInt32.toUInt16.toUInt32.toInt32)), .val .null, .val (.ref x177), .val .null] [(.int (1 : Int32))])) (fun _ q => XS.ifNo X181.here hx rfl (hb hby at_176) rfl ((if0 _ _).trans (teq (by rw [hr180]; decide)).2) (XS.iconst X181.here hx rfl (hb hby at_179) (XS.goto X181.here hx rfl (pc0 := 180) (pc' := 184) rfl (hb hby at_180) (by decide) (by decide) (q)))) ?_
        exact own_goWN X181 hh w178 hEL e181 hlk hx (t := .boolean) (by simp) Bd.returns (hb hby at_184) ⟨rfl, N177⟩ (by decide) (by decide)
set_option maxRecDepth 65536 in
set_option maxHeartbeats 40000000 in
theorem comes_1 {Post : Tables → Env → Array Value → State → Outcome → State → Prop} (hpost : ∀ tb e args s v u, (limb_1_1.after args s (.returned v) u = true ∧ limb_1_2.after args s (.returned v) u = true ∧ True) → ReturnedEndW s (.returned v) u (Jvm.fieldLocs frame_1_writes args s ++ Jvm.arrayLocs frame_1_arrays args s ++ Jvm.staticLocs frame_1_statics s) 24 3200 → Post tb e args s (.returned v) u) :
    ArmFor flags0 classFile x code maxLocals ret World_1 tables_1 room_1 Calls_1 rest_1 Pre_1 Post := by
  intro l hfl _ _ p e ha hc hk s m args below hf hA hF happ hP
  obtain ⟨hcalls, hrest, hpre⟩ := hP
  obtain ⟨-, -, -, hnamed, -, -, -, hat⟩ := (Spec.applies_iff hf).mp happ
  obtain ⟨hg, hn⟩ := and_e (Cond.before_iff.mp (show (Jvm.Cond.and given_1 narrow_1).before args s = true from hpre))
  obtain ⟨hct, hi0⟩ := and_e hg
  obtain ⟨ha0, hi1⟩ := and_e hi0
  obtain ⟨ha1, hi2⟩ := and_e hi1
  obtain ⟨ha2, hi3⟩ := and_e hi2
  have ha3 := hi3
  obtain ⟨w0, w1, w2, w3, rfl⟩ : ∃ w0 w1 w2 w3 : Value, args = #[w0, w1, w2, w3] := by
    have hs : args.size = 4 := by simpa [Cond.value, given_1] using hct
    obtain ⟨L⟩ := args
    match L, hs with
    | [w0, w1, w2, w3], _ => exact ⟨w0, w1, w2, w3, rfl⟩
  have hw := fun d (hd : d ∈ tables_1) => atoms_spec (ws := Jvm.Cond.code x code maxLocals ret :: tables_1) hat d (List.mem_cons_of_mem _ hd)
  obtain ⟨hsets, hown0⟩ := atoms_of _ (rest_1_c_eq ▸ (show rest_1_c.before _ s = true from hrest))
  have hr0 := Cond.before_iff.mp hown0
  have hfit : Fit s := fun {y c} hc i hi => by
    obtain ⟨ha, rfl⟩ := Array.getElem?_eq_some_iff.mp hc
    have q := List.all_eq_true.mp ((Array.all_eq_true_iff_forall_mem.mp hF) _ (Array.getElem_mem ha)) i (List.mem_range.mpr hi)
    simpa [Array.getElem?_eq_getElem hi] using q
  obtain ⟨i0, ee0⟩ := is_v ha0
  obtain rfl : w0 = (.int i0) := Option.some.inj ee0
  obtain ⟨i1, ee1⟩ := is_v ha1
  obtain rfl : w1 = (.int i1) := Option.some.inj ee1
  obtain ⟨i2, ee2⟩ := is_v ha2
  obtain rfl : w2 = (.int i2) := Option.some.inj ee2
  obtain ⟨i3, ee3⟩ := is_v ha3
  obtain rfl : w3 = (.int i3) := Option.some.inj ee3
  have n5 := not_v (Cond.before_iff.mp (hsets _ (List.mem_of_getElem? (i := 2) rfl)))
  obtain ⟨G1, eG1⟩ := is_v (Cond.before_iff.mp (hsets _ (List.mem_of_getElem? (i := 1) rfl)))
  have SG1 : Sta s s.heap "java/lang/String" "COMPACT_STRINGS" "Z" (.int G1) := Sta.start eG1 (Or.inl (hsets _ (List.mem_of_getElem? (i := 0) rfl)))
  have zG1 : ¬ (G1 = (0 : Int32)) := gotF (Cond.eq_ints eG1 (Term.int_eval (0))) n5
  obtain ⟨fm, eFm, rFm⟩ := isR_v (Cond.before_iff.mp (hsets _ (List.mem_of_getElem? (i := 8) rfl)))
  have SFm : Sta s s.heap "jdk/internal/util/Preconditions" "SIOOBE_FORMATTER" "Ljava/util/function/BiFunction;" fm := Sta.start eFm (Or.inl (hsets _ (List.mem_of_getElem? (i := 7) rfl)))
  obtain ⟨c1, k1⟩ := and_e hn
  obtain ⟨c2, k2⟩ := and_e k1
  obtain ⟨c3, k3⟩ := and_e k2
  obtain ⟨c4, k4⟩ := and_e k3
  obtain ⟨c5, k5⟩ := and_e k4
  obtain ⟨c6, k6⟩ := and_e k5
  obtain ⟨c7, k7⟩ := and_e k6
  obtain ⟨c8, k8⟩ := and_e k7
  obtain ⟨c9, k9⟩ := and_e k8
  obtain ⟨c10, k10⟩ := and_e k9
  obtain ⟨c11, k11⟩ := and_e k10
  obtain ⟨c12, k12⟩ := and_e k11
  obtain ⟨c13, k13⟩ := and_e k12
  obtain ⟨c14, k14⟩ := and_e k13
  obtain ⟨c15, k15⟩ := and_e k14
  obtain ⟨c16, k16⟩ := and_e k15
  obtain ⟨c17, k17⟩ := and_e k16
  obtain ⟨c18, k18⟩ := and_e k17
  obtain ⟨c19, k19⟩ := and_e k18
  obtain ⟨c20, k20⟩ := and_e k19
  obtain ⟨c21, k21⟩ := and_e k20
  obtain ⟨c22, k22⟩ := and_e k21
  obtain ⟨c23, k23⟩ := and_e k22
  obtain ⟨c24, k24⟩ := and_e k23
  obtain ⟨c25, k25⟩ := and_e k24
  have c26 := k25
  obtain ⟨aV, evV⟩ := arr_v c1
  have SV : Sta s s.heap "org/proofstand/runner/VmMode" "$VALUES" "[Lorg/proofstand/runner/VmMode;" (.ref aV) := Sta.start evV (Or.inr ⟨(hw _ (List.mem_of_getElem? (i := 74) rfl)), (hw _ (List.mem_of_getElem? (i := 80) rfl))⟩)
  obtain ⟨clV, AV_⟩ := Arr.start evV c1
  have EV_ := Exa.start evV c2
  obtain ⟨lV1, lV2⟩ := own_len c3 evV AV_
  obtain ⟨aS, evS⟩ := exa_v c4
  have SS : Sta s s.heap "org/proofstand/runner/VmMode" "SHARED" "Lorg/proofstand/runner/VmMode;" (.ref aS) := Sta.start evS (Or.inr ⟨(hw _ (List.mem_of_getElem? (i := 74) rfl)), (hw _ (List.mem_of_getElem? (i := 88) rfl))⟩)
  have ES_ := Exa.start evS c4
  obtain ⟨aF, evF⟩ := exa_v c6
  have SF : Sta s s.heap "org/proofstand/runner/VmMode" "FRESH" "Lorg/proofstand/runner/VmMode;" (.ref aF) := Sta.start evF (Or.inr ⟨(hw _ (List.mem_of_getElem? (i := 74) rfl)), (hw _ (List.mem_of_getElem? (i := 89) rfl))⟩)
  have EF_ := Exa.start evF c6
  have VV_ : Arv s s.heap aV clV.cls (.object "org/proofstand/runner/VmMode") (2 : Int32) [(.ref aS), (.ref aF)] .null := Arv.start hfit AV_ lV1 lV2 (by decide) rfl ⟨own_elemR c5 evV AV_ (by decide) evS, own_elemR c7 evV AV_ (by decide) evF, trivial⟩
  obtain ⟨wS, ewS⟩ := exa_v c8
  have MS_ := own_fldR ewS evS
  have EwS := Exa.start ewS c8
  have CS_ := own_fldI c9 ewS
  obtain ⟨tS, etS⟩ := arr_v c10
  have FS_ := own_fldR etS ewS
  obtain ⟨clS, AS_⟩ := Arr.start etS c10
  obtain ⟨lS1, lS2⟩ := own_len c11 etS AS_
  have KS_ : Arv s s.heap tS clS.cls .byte (6 : Int32) own_vsS (.int (0 : Int32)) := Arv.start hfit AS_ lS1 lS2 (by decide) rfl ⟨own_elemI c16 etS AS_ (by decide), own_elemI c17 etS AS_ (by decide), own_elemI c18 etS AS_ (by decide), own_elemI c19 etS AS_ (by decide), own_elemI c20 etS AS_ (by decide), own_elemI c21 etS AS_ (by decide), trivial⟩
  obtain ⟨wF, ewF⟩ := exa_v c12
  have MF_ := own_fldR ewF evF
  have EwF := Exa.start ewF c12
  have CF_ := own_fldI c13 ewF
  obtain ⟨tF, etF⟩ := arr_v c14
  have FF_ := own_fldR etF ewF
  obtain ⟨clF, AF_⟩ := Arr.start etF c14
  obtain ⟨lF1, lF2⟩ := own_len c15 etF AF_
  have KF_ : Arv s s.heap tF clF.cls .byte (5 : Int32) own_vsF (.int (0 : Int32)) := Arv.start hfit AF_ lF1 lF2 (by decide) rfl ⟨own_elemI c22 etF AF_ (by decide), own_elemI c23 etF AF_ (by decide), own_elemI c24 etF AF_ (by decide), own_elemI c25 etF AF_ (by decide), own_elemI c26 etF AF_ (by decide), trivial⟩
  obtain ⟨aE, evE⟩ := exa_v (Cond.before_iff.mp (hsets _ (List.mem_of_getElem? (i := 11) rfl)))
  have SE : Sta s s.heap "java/util/Optional" "EMPTY" "Ljava/util/Optional;" (.ref aE) := Sta.start evE (Or.inl (hsets _ (List.mem_of_getElem? (i := 10) rfl)))
  have EE_ := Exa.start evE (Cond.before_iff.mp (hsets _ (List.mem_of_getElem? (i := 11) rfl)))
  have FE_ := own_fldR (null_v (Cond.before_iff.mp (hsets _ (List.mem_of_getElem? (i := 12) rfl)))) evE
  have hCH : CHv s own_EL s.vm s.heap := CHv.start (own_ew hw) (fun p hp => hcalls.1 p hp) (hsets _ (List.mem_of_getElem? (i := 2) rfl)) (hw _ (List.mem_of_getElem? (i := 3) rfl)) (hw _ (List.mem_of_getElem? (i := 2) rfl))
  obtain ⟨n, o, h1, h2, h3, _, L, rfl, ⟨rfl, N⟩, -, hq⟩ := own_rm_law l s _ hw tables_1 i0 i1 i2 i3 G1 fm aV aS aF aE wS tS wF tF clV.cls clS.cls clF.cls s.heap.size s.heap (Nat.le_refl _) (Old.start s) SG1 zG1 SFm rFm SV VV_ EV_ SE EE_ FE_ EwS FS_ CS_ KS_ MS_ ES_ EwF FF_ CF_ KF_ MF_ EF_ SS SF p e ha hc hk s m _ below hf ((Spec.applies_iff_loose hf).mp happ).1 ⟨rfl, State.Warmed39.refl s, rfl, hCH, all0⟩ trivial
  exact ⟨n, _, h1, h2, h3, hpost _ _ _ _ _ _ ⟨Cond.after_iff.mpr rfl, Cond.after_iff.mpr (eq_i res_at (Term.int_eval (1)) rfl), trivial⟩ ⟨hq.1, hq.2.1, hq.2.2.1, (hq.2.2.2.sift fun y hy => Or.inr (N y hy)).mono (by decide) (by decide)⟩⟩
theorem main_1_1 : Claimed_1_1 := comes_1 fun _ _ _ _ _ _ h hF => ⟨h.1, hF⟩
theorem main_1_2 : Claimed_1_2 := comes_1 fun _ _ _ _ _ _ h hF => ⟨h.2.1, hF⟩
end Jvm.Pilot.@@N@@
namespace Jvm.Pilot.@@N@@
open Jvm Jvm.ClassFile Sem Op Lib Jvm.Free Jvm.Stand Jvm.Pilot.@@N@@.Jvm.D
/-! MADE BY PROGRAM (witnessworld.py) out of the Statement's table words and the real class files: 24 classes; the members and pool entries that the words name. The judged class is class 1, her method 3. -/
namespace start1
open Jvm.ClassFile
def u (s : String) : CpInfo := .utf8 (stringToUtf16 s)
/-- a pool by its gaps: so many unusable entries, then the entry; so many at the end -/
def gap : Nat → List CpInfo → List CpInfo
  | 0, r => r
  | n + 1, r => .unusable :: gap n r
def poolList (es : List (Nat × CpInfo)) (last : Nat) : List CpInfo := es.foldr (fun e r => gap e.1 (e.2 :: r)) (gap last [])
def pool (es : List (Nat × CpInfo)) (last : Nat) : Array CpInfo := ⟨poolList es last⟩
def fileOf (pool : Array CpInfo) (this : Nat) (attrs : Array Attribute := #[]) (ms : Array MethodInfo := #[]) (fl : Nat := 33) (sup : Nat := 0) (ifs : Array Nat := #[]) (fds : Array FieldInfo := #[]) : ClassFile where
  minorVersion := 0
  majorVersion := 65
  constantPool := pool
  accessFlags := fl
  thisClass := this
  superClass := sup
  interfaces := ifs
  fields := fds
  methods := ms
  attributes := attrs
def plain (name : String) (sup : Option ClassId) : Class where
  name := name
  kind := .ordinary
  loader := none
  accessFlags := 33
  super := sup
  interfaces := #[]
  cf := none
  fields := #[]
  methods := #[]
  instanceTypes := #[]
  staticTypes := #[]
  resolved := #[]
  callSites := []
  init := .initialized
  statics := none
  mirror := none

def pool0 : Array CpInfo := pool [(5, u "<init>"), (0, u "()V"), (1, .class_ 10), (1, u "java/lang/Object"), (85, u "clone"), (0, u "()Ljava/lang/Object;")] 26

def k0c0 : Code := { maxStack := 0, maxLocals := 1, code := object_method_1_code, exceptionTable := #[], attributes := #[] }
def k0m0 : Method := { name := "<init>", desc := "()V", sig := { parameters := [], returnType := none }, accessFlags := 1, code := some k0c0 }
def k0m1 : Method := { name := "clone", desc := "()Ljava/lang/Object;", sig := { parameters := [], returnType := some (.object "java/lang/Object") }, accessFlags := 260, code := none }
/-- java/lang/Object -/
def k0 : Class := { plain "java/lang/Object" none with
  accessFlags := 33
  interfaces := #[]
  cf := some (fileOf pool0 8 #[] #[{ accessFlags := 1, nameIndex := 5, descriptorIndex := 6, attributes := #[] }, { accessFlags := 260, nameIndex := 96, descriptorIndex := 97, attributes := #[] }] 33 0 #[] #[])
  fields := #[]
  methods := #[k0m0, k0m1]
  instanceTypes := #[]
  staticTypes := #[]
  resolved := Array.replicate 124 none
  statics := none }

def pool1 : Array CpInfo := pool [(2, .class_ 4), (1, u "java/lang/Object"), (0, u "<init>"), (0, u "()V"), (0, .methodref 8 9), (0, .class_ 10), (0, .nameAndType 11 12), (0, u "java/lang/String"), (0, u "length"), (0, u "()I"), (0, .methodref 8 14), (0, .nameAndType 15 16), (0, u "charAt"), (0, u "(I)C"), (0, .methodref 18 19), (0, .class_ 20), (0, .nameAndType 21 22), (0, u "org/proofstand/runner/VmModeNamedPinLaw"), (0, u "at"), (0, u "(Ljava/lang/String;IIZCC)C"), (0, .methodref 8 24), (0, .nameAndType 5 25), (0, u "([C)V"), (0, .string 27), (0, u "shared"), (0, .string 29), (0, u "fresh"), (0, .methodref 18 31), (0, .nameAndType 32 33), (0, u "build"), (0, u "(Ljava/lang/String;IIZCC)Ljava/lang/String;"), (0, .methodref 35 36), (0, .class_ 37), (0, .nameAndType 38 39), (0, u "org/proofstand/runner/VmMode"), (0, u "named"), (0, u "(Ljava/lang/String;)Ljava/util/Optional;"), (0, .methodref 8 41), (0, .nameAndType 42 43), (0, u "equals"), (0, u "(Ljava/lang/Object;)Z"), (0, .fieldref 35 45), (0, .nameAndType 46 47), (0, u "SHARED"), (0, u "Lorg/proofstand/runner/VmMode;"), (0, .fieldref 35 49), (0, .nameAndType 50 47), (0, u "FRESH"), (0, .methodref 52 53), (0, .class_ 54), (0, .nameAndType 55 56), (0, u "java/util/Optional"), (0, u "isPresent"), (0, u "()Z"), (0, .methodref 52 58), (0, .nameAndType 59 60), (0, u "get"), (0, u "()Ljava/lang/Object;"), (0, .methodref 35 62), (0, .nameAndType 63 64), (0, u "word"), (0, u "()Ljava/lang/String;"), (3, u "law"), (0, u "(IIII)Z")] 2

def k1m0 : Method := { name := "<init>", desc := "()V", sig := { parameters := [], returnType := none }, accessFlags := 1, code := none }
def k1c1 : Code := { maxStack := 2, maxLocals := 6, code := method_2_code, exceptionTable := #[], attributes := #[] }
def k1m1 : Method := { name := "at", desc := "(Ljava/lang/String;IIZCC)C", sig := { parameters := [(.object "java/lang/String"), .int, .int, .boolean, .char, .char], returnType := some .char }, accessFlags := 10, code := some k1c1 }
def k1c2 : Code := { maxStack := 6, maxLocals := 13, code := method_3_code, exceptionTable := #[], attributes := #[] }
def k1m2 : Method := { name := "build", desc := "(Ljava/lang/String;IIZCC)Ljava/lang/String;", sig := { parameters := [(.object "java/lang/String"), .int, .int, .boolean, .char, .char], returnType := some (.object "java/lang/String") }, accessFlags := 10, code := some k1c2 }
def k1c3 : Code := { maxStack := 6, maxLocals := 14, code := code, exceptionTable := #[], attributes := #[] }
def k1m3 : Method := { name := "law", desc := "(IIII)Z", sig := { parameters := [.int, .int, .int, .int], returnType := some .boolean }, accessFlags := 9, code := some k1c3 }
/-- org/proofstand/runner/VmModeNamedPinLaw -/
def k1 : Class := { plain "org/proofstand/runner/VmModeNamedPinLaw" (some 0) with
  accessFlags := 49
  interfaces := #[]
  cf := some (fileOf pool1 18 #[] #[{ accessFlags := 1, nameIndex := 5, descriptorIndex := 6, attributes := #[] }, { accessFlags := 10, nameIndex := 21, descriptorIndex := 22, attributes := #[] }, { accessFlags := 10, nameIndex := 32, descriptorIndex := 33, attributes := #[] }, { accessFlags := 9, nameIndex := 68, descriptorIndex := 69, attributes := #[] }] 49 2 #[] #[])
  fields := #[]
  methods := #[k1m0, k1m1, k1m2, k1m3]
  instanceTypes := #[]
  staticTypes := #[]
  resolved := Array.replicate 72 none
  statics := none }

def pool2 : Array CpInfo := pool [(1, .class_ 2), (0, u "java/io/Serializable"), (0, .class_ 4), (0, u "java/lang/Object")] 2

/-- java/io/Serializable -/
def k2 : Class := { plain "java/io/Serializable" (some 0) with
  accessFlags := 1537
  interfaces := #[]
  cf := some (fileOf pool2 1 #[] #[] 1537 3 #[] #[])
  fields := #[]
  methods := #[]
  instanceTypes := #[]
  staticTypes := #[]
  resolved := Array.replicate 7 none
  statics := none }

def pool3 : Array CpInfo := pool [(1, .class_ 2), (0, u "java/lang/Comparable"), (0, .class_ 4), (0, u "java/lang/Object")] 7

/-- java/lang/Comparable -/
def k3 : Class := { plain "java/lang/Comparable" (some 0) with
  accessFlags := 1537
  interfaces := #[]
  cf := some (fileOf pool3 1 #[] #[] 1537 3 #[] #[])
  fields := #[]
  methods := #[]
  instanceTypes := #[]
  staticTypes := #[]
  resolved := Array.replicate 12 none
  statics := none }

def pool4 : Array CpInfo := pool [(2, .class_ 4), (1, u "java/lang/CharSequence"), (42, .class_ 48), (0, u "java/lang/CharSequence$1CodePointIterator"), (10, .class_ 60), (0, u "java/lang/CharSequence$1CharIterator"), (5, .class_ 67), (0, u "java/lang/Object")] 63

/-- java/lang/CharSequence -/
def k4 : Class := { plain "java/lang/CharSequence" (some 0) with
  accessFlags := 1537
  interfaces := #[]
  cf := some (fileOf pool4 2 #[.nestMembers #[47, 59]] #[] 1537 66 #[] #[])
  fields := #[]
  methods := #[]
  instanceTypes := #[]
  staticTypes := #[]
  resolved := Array.replicate 131 none
  statics := none }

def pool5 : Array CpInfo := pool [(1, .class_ 2), (0, u "java/lang/constant/Constable"), (0, .class_ 4), (0, u "java/lang/Object")] 6

/-- java/lang/constant/Constable -/
def k5 : Class := { plain "java/lang/constant/Constable" (some 0) with
  accessFlags := 1537
  interfaces := #[]
  cf := some (fileOf pool5 1 #[] #[] 1537 3 #[] #[])
  fields := #[]
  methods := #[]
  instanceTypes := #[]
  staticTypes := #[]
  resolved := Array.replicate 11 none
  statics := none }

def pool6 : Array CpInfo := pool [(1, .class_ 2), (0, u "java/lang/constant/ConstantDesc"), (0, .class_ 4), (0, u "java/lang/Object")] 32

/-- java/lang/constant/ConstantDesc -/
def k6 : Class := { plain "java/lang/constant/ConstantDesc" (some 0) with
  accessFlags := 1537
  interfaces := #[]
  cf := some (fileOf pool6 1 #[] #[] 1537 3 #[] #[])
  fields := #[]
  methods := #[]
  instanceTypes := #[]
  staticTypes := #[]
  resolved := Array.replicate 37 none
  statics := none }

def pool7 : Array CpInfo := pool [(1, .methodref 2 3), (0, .class_ 4), (0, .nameAndType 5 6), (0, u "java/lang/Object"), (0, u "<init>"), (0, u "()V"), (0, .string 8), (0, u ""), (0, .fieldref 10 11), (0, .class_ 12), (0, .nameAndType 13 14), (0, u "java/lang/String"), (0, u "value"), (0, u "[B"), (0, .fieldref 10 16), (0, .nameAndType 17 18), (0, u "coder"), (0, u "B"), (2, u "hash"), (0, u "I"), (2, u "hashIsZero"), (0, u "Z"), (0, .methodref 10 28), (0, .nameAndType 5 29), (0, u "([CIILjava/lang/Void;)V"), (8, .fieldref 10 39), (0, .nameAndType 40 26), (0, u "COMPACT_STRINGS"), (1, .class_ 44), (1, u "java/lang/StringUTF16"), (0, u "compress"), (1, .methodref 42 48), (0, .nameAndType 49 50), (0, u "coderFromArrayLen"), (0, u "([BI)B"), (56, .class_ 109), (1, u "java/lang/StringLatin1"), (32, u "()Z"), (34, .methodref 42 178), (0, .nameAndType 45 179), (0, u "([CII)[B"), (154, u "()I"), (0, .methodref 10 336), (0, .nameAndType 17 337), (0, u "()B"), (25, u "([BI)C"), (27, u "(II)V"), (35, u "(I)C"), (64, .methodref 10 493), (0, .nameAndType 494 142), (0, u "isLatin1"), (0, .methodref 107 496), (0, .nameAndType 497 363), (0, u "charAt"), (3, u "checkIndex"), (5, u "length"), (33, .methodref 107 542), (0, .nameAndType 543 544), (0, u "equals"), (0, u "([B[B)Z"), (28, u "(Ljava/lang/Object;)Z"), (1, .class_ 576), (0, u "java/lang/CharSequence"), (22, u "CASE_INSENSITIVE_ORDER"), (0, u "Ljava/util/Comparator;"), (409, u "([C)V"), (42, .fieldref 1054 1055), (0, .class_ 1056), (0, .nameAndType 1057 1058), (0, u "jdk/internal/util/Preconditions"), (0, u "SIOOBE_FORMATTER"), (0, u "Ljava/util/function/BiFunction;"), (0, .methodref 1054 1060), (0, .nameAndType 501 1061), (0, u "(IILjava/util/function/BiFunction;)I"), (39, u "serialPersistentFields"), (0, u "[Ljava/io/ObjectStreamField;"), (0, .class_ 1104), (0, u "java/lang/String$CaseInsensitiveComparator"), (1, .class_ 1107), (0, u "java/io/Serializable"), (0, .class_ 1109), (0, u "java/lang/Comparable"), (0, .class_ 1111), (0, u "java/lang/constant/Constable"), (0, .class_ 1113), (0, u "java/lang/constant/ConstantDesc"), (2, u "serialVersionUID"), (0, u "J"), (3, u "REPL"), (0, u "C"), (2, u "LATIN1"), (1, u "UTF16")] 323

def k7m0 : Method := { name := "<init>", desc := "()V", sig := { parameters := [], returnType := none }, accessFlags := 1, code := none }
def k7c1 : Code := { maxStack := 5, maxLocals := 2, code := jdk_42_method_3_code, exceptionTable := #[], attributes := #[] }
def k7m1 : Method := { name := "<init>", desc := "([C)V", sig := { parameters := [(.array .char)], returnType := none }, accessFlags := 1, code := some k7c1 }
def k7c2 : Code := { maxStack := 2, maxLocals := 1, code := jdk_42_method_54_code, exceptionTable := #[], attributes := #[] }
def k7m2 : Method := { name := "length", desc := "()I", sig := { parameters := [], returnType := some .int }, accessFlags := 1, code := some k7c2 }
def k7c3 : Code := { maxStack := 2, maxLocals := 2, code := jdk_42_method_56_code, exceptionTable := #[], attributes := #[] }
def k7m3 : Method := { name := "charAt", desc := "(I)C", sig := { parameters := [.int], returnType := some .char }, accessFlags := 1, code := some k7c3 }
def k7c4 : Code := { maxStack := 2, maxLocals := 3, code := jdk_42_method_66_code, exceptionTable := #[], attributes := #[] }
def k7m4 : Method := { name := "equals", desc := "(Ljava/lang/Object;)Z", sig := { parameters := [(.object "java/lang/Object")], returnType := some .boolean }, accessFlags := 1, code := some k7c4 }
def k7c5 : Code := { maxStack := 4, maxLocals := 6, code := jdk_42_method_149_code, exceptionTable := #[], attributes := #[] }
def k7m5 : Method := { name := "<init>", desc := "([CIILjava/lang/Void;)V", sig := { parameters := [(.array .char), .int, .int, (.object "java/lang/Void")], returnType := none }, accessFlags := 2, code := some k7c5 }
def k7c6 : Code := { maxStack := 1, maxLocals := 1, code := jdk_42_method_152_code, exceptionTable := #[], attributes := #[] }
def k7m6 : Method := { name := "coder", desc := "()B", sig := { parameters := [], returnType := some .byte }, accessFlags := 0, code := some k7c6 }
def k7c7 : Code := { maxStack := 1, maxLocals := 1, code := jdk_42_method_154_code, exceptionTable := #[], attributes := #[] }
def k7m7 : Method := { name := "isLatin1", desc := "()Z", sig := { parameters := [], returnType := some .boolean }, accessFlags := 0, code := some k7c7 }
def k7c8 : Code := { maxStack := 3, maxLocals := 2, code := jdk_42_method_155_code, exceptionTable := #[], attributes := #[] }
def k7m8 : Method := { name := "checkIndex", desc := "(II)V", sig := { parameters := [.int, .int], returnType := none }, accessFlags := 8, code := some k7c8 }
/-- java/lang/String -/
def k7 : Class := { plain "java/lang/String" (some 0) with
  accessFlags := 49
  interfaces := #[2, 3, 4, 5, 6]
  cf := some (fileOf pool7 10 #[.nestMembers #[1103]] #[{ accessFlags := 1, nameIndex := 5, descriptorIndex := 6, attributes := #[] }, { accessFlags := 1, nameIndex := 5, descriptorIndex := 1010, attributes := #[] }, { accessFlags := 1, nameIndex := 507, descriptorIndex := 334, attributes := #[] }, { accessFlags := 1, nameIndex := 497, descriptorIndex := 427, attributes := #[] }, { accessFlags := 1, nameIndex := 543, descriptorIndex := 573, attributes := #[] }, { accessFlags := 2, nameIndex := 5, descriptorIndex := 29, attributes := #[] }, { accessFlags := 0, nameIndex := 17, descriptorIndex := 337, attributes := #[] }, { accessFlags := 0, nameIndex := 494, descriptorIndex := 142, attributes := #[] }, { accessFlags := 8, nameIndex := 501, descriptorIndex := 391, attributes := #[] }] 49 2 #[1106, 1108, 575, 1110, 1112] #[{ accessFlags := 18, nameIndex := 13, descriptorIndex := 14, attributes := #[] }, { accessFlags := 18, nameIndex := 17, descriptorIndex := 18, attributes := #[] }, { accessFlags := 2, nameIndex := 21, descriptorIndex := 22, attributes := #[] }, { accessFlags := 2, nameIndex := 25, descriptorIndex := 26, attributes := #[] }, { accessFlags := 26, nameIndex := 1116, descriptorIndex := 1117, attributes := #[] }, { accessFlags := 24, nameIndex := 40, descriptorIndex := 26, attributes := #[] }, { accessFlags := 26, nameIndex := 1101, descriptorIndex := 1102, attributes := #[] }, { accessFlags := 26, nameIndex := 1121, descriptorIndex := 1122, attributes := #[] }, { accessFlags := 25, nameIndex := 599, descriptorIndex := 600, attributes := #[] }, { accessFlags := 24, nameIndex := 1125, descriptorIndex := 18, attributes := #[] }, { accessFlags := 24, nameIndex := 1127, descriptorIndex := 18, attributes := #[] }])
  fields := #[{ name := "value", type := (.array .byte), accessFlags := 18, slot := 0, constantValue := 0 }, { name := "coder", type := .byte, accessFlags := 18, slot := 1, constantValue := 0 }, { name := "hash", type := .int, accessFlags := 2, slot := 2, constantValue := 0 }, { name := "hashIsZero", type := .boolean, accessFlags := 2, slot := 3, constantValue := 0 }, { name := "serialVersionUID", type := .long, accessFlags := 26, slot := 0, constantValue := 0 }, { name := "COMPACT_STRINGS", type := .boolean, accessFlags := 24, slot := 1, constantValue := 0 }, { name := "serialPersistentFields", type := (.array (.object "java/io/ObjectStreamField")), accessFlags := 26, slot := 2, constantValue := 0 }, { name := "REPL", type := .char, accessFlags := 26, slot := 3, constantValue := 0 }, { name := "CASE_INSENSITIVE_ORDER", type := (.object "java/util/Comparator"), accessFlags := 25, slot := 4, constantValue := 0 }, { name := "LATIN1", type := .byte, accessFlags := 24, slot := 5, constantValue := 0 }, { name := "UTF16", type := .byte, accessFlags := 24, slot := 6, constantValue := 0 }]
  methods := #[k7m0, k7m1, k7m2, k7m3, k7m4, k7m5, k7m6, k7m7, k7m8]
  instanceTypes := #[(.array .byte), .byte, .int, .boolean]
  staticTypes := #[.long, .boolean, (.array (.object "java/io/ObjectStreamField")), .char, (.object "java/util/Comparator"), .byte, .byte]
  resolved := Array.replicate 1451 none
  statics := some 0 }

def pool8 : Array CpInfo := pool [(1, .class_ 2), (0, u "java/lang/String"), (1, .class_ 6), (1, u "java/lang/Object"), (0, u "<init>"), (0, u "()V"), (0, .methodref 1 10), (0, .nameAndType 11 12), (0, u "checkIndex"), (0, u "(II)V"), (1, .class_ 16), (1, u "java/lang/StringLatin1"), (36, u "([BI)C"), (67, u "$assertionsDisabled"), (0, u "Z"), (98, .class_ 223), (1, u "java/lang/StringLatin1$LinesSpliterator"), (28, u "charAt"), (28, u "equals"), (0, u "([B[B)Z"), (107, .class_ 391), (0, u "java/lang/StringLatin1$CharsSpliterator")] 3

def k8m0 : Method := { name := "<init>", desc := "()V", sig := { parameters := [], returnType := none }, accessFlags := 0, code := none }
def k8c1 : Code := { maxStack := 2, maxLocals := 2, code := jdk_43_method_2_code, exceptionTable := #[], attributes := #[] }
def k8m1 : Method := { name := "charAt", desc := "([BI)C", sig := { parameters := [(.array .byte), .int], returnType := some .char }, accessFlags := 9, code := some k8c1 }
def k8c2 : Code := { maxStack := 3, maxLocals := 3, code := jdk_43_method_13_code, exceptionTable := #[], attributes := #[] }
def k8m2 : Method := { name := "equals", desc := "([B[B)Z", sig := { parameters := [(.array .byte), (.array .byte)], returnType := some .boolean }, accessFlags := 9, code := some k8c2 }
/-- java/lang/StringLatin1 -/
def k8 : Class := { plain "java/lang/StringLatin1" (some 0) with
  accessFlags := 48
  interfaces := #[]
  cf := some (fileOf pool8 14 #[.nestMembers #[390, 221]] #[{ accessFlags := 0, nameIndex := 7, descriptorIndex := 8, attributes := #[] }, { accessFlags := 9, nameIndex := 252, descriptorIndex := 53, attributes := #[] }, { accessFlags := 9, nameIndex := 281, descriptorIndex := 282, attributes := #[] }] 48 4 #[] #[{ accessFlags := 4120, nameIndex := 121, descriptorIndex := 122, attributes := #[] }])
  fields := #[{ name := "$assertionsDisabled", type := .boolean, accessFlags := 4120, slot := 0, constantValue := 0 }]
  methods := #[k8m0, k8m1, k8m2]
  instanceTypes := #[]
  staticTypes := #[.boolean]
  resolved := Array.replicate 395 none
  statics := none }

def pool9 : Array CpInfo := pool [(2, .class_ 4), (1, u "java/lang/Object"), (0, u "<init>"), (0, u "()V"), (17, .class_ 26), (1, u "jdk/internal/util/Preconditions"), (6, u "checkIndex"), (21, .class_ 56), (0, u "jdk/internal/util/Preconditions$4"), (57, .class_ 115), (0, u "jdk/internal/util/Preconditions$1"), (7, u "SIOOBE_FORMATTER"), (0, u "Ljava/util/function/BiFunction;"), (0, .class_ 126), (0, u "jdk/internal/util/Preconditions$2"), (3, u "AIOOBE_FORMATTER"), (0, .class_ 132), (0, u "jdk/internal/util/Preconditions$3"), (3, u "IOOBE_FORMATTER"), (41, u "(IILjava/util/function/BiFunction;)I")] 15

def k9m0 : Method := { name := "<init>", desc := "()V", sig := { parameters := [], returnType := none }, accessFlags := 1, code := none }
def k9c1 : Code := { maxStack := 3, maxLocals := 3, code := jdk_41_method_11_code, exceptionTable := #[], attributes := #[] }
def k9m1 : Method := { name := "checkIndex", desc := "(IILjava/util/function/BiFunction;)I", sig := { parameters := [.int, .int, (.object "java/util/function/BiFunction")], returnType := some .int }, accessFlags := 9, code := some k9c1 }
/-- jdk/internal/util/Preconditions -/
def k9 : Class := { plain "jdk/internal/util/Preconditions" (some 0) with
  accessFlags := 33
  interfaces := #[]
  cf := some (fileOf pool9 24 #[.nestMembers #[55, 131, 125, 114]] #[{ accessFlags := 1, nameIndex := 5, descriptorIndex := 6, attributes := #[] }, { accessFlags := 9, nameIndex := 33, descriptorIndex := 178, attributes := #[] }] 33 2 #[] #[{ accessFlags := 25, nameIndex := 123, descriptorIndex := 124, attributes := #[] }, { accessFlags := 25, nameIndex := 130, descriptorIndex := 124, attributes := #[] }, { accessFlags := 25, nameIndex := 136, descriptorIndex := 124, attributes := #[] }])
  fields := #[{ name := "SIOOBE_FORMATTER", type := (.object "java/util/function/BiFunction"), accessFlags := 25, slot := 0, constantValue := 0 }, { name := "AIOOBE_FORMATTER", type := (.object "java/util/function/BiFunction"), accessFlags := 25, slot := 1, constantValue := 0 }, { name := "IOOBE_FORMATTER", type := (.object "java/util/function/BiFunction"), accessFlags := 25, slot := 2, constantValue := 0 }]
  methods := #[k9m0, k9m1]
  instanceTypes := #[]
  staticTypes := #[(.object "java/util/function/BiFunction"), (.object "java/util/function/BiFunction"), (.object "java/util/function/BiFunction")]
  resolved := Array.replicate 194 none
  statics := some 1 }

def pool10 : Array CpInfo := pool [(6, .class_ 8), (1, u "java/lang/Object"), (0, u "<init>"), (0, u "()V"), (1, .class_ 14), (1, u "java/lang/StringUTF16"), (31, u "$assertionsDisabled"), (0, u "Z"), (13, u "HI_BYTE_SHIFT"), (0, u "I"), (2, u "LO_BYTE_SHIFT"), (49, .methodref 12 116), (0, .nameAndType 117 118), (0, u "compress"), (0, u "([CI[BII)I"), (3, u "([CII)[B"), (138, u "coderFromArrayLen"), (0, u "([BI)B"), (106, .class_ 371), (1, u "java/lang/StringUTF16$LinesSpliterator"), (58, u "MAX_LENGTH"), (196, .class_ 628), (0, u "java/lang/StringUTF16$CodePointsSpliterator"), (0, .class_ 630), (0, u "java/lang/StringUTF16$CharsSpliterator")] 4

def k10m0 : Method := { name := "<init>", desc := "()V", sig := { parameters := [], returnType := none }, accessFlags := 0, code := none }
def k10c1 : Code := { maxStack := 2, maxLocals := 2, code := jdk_52_method_15_code, exceptionTable := #[], attributes := #[] }
def k10m1 : Method := { name := "coderFromArrayLen", desc := "([BI)B", sig := { parameters := [(.array .byte), .int], returnType := some .byte }, accessFlags := 8, code := some k10c1 }
def k10c2 : Code := { maxStack := 5, maxLocals := 6, code := jdk_52_method_16_code, exceptionTable := #[], attributes := #[] }
def k10m2 : Method := { name := "compress", desc := "([CII)[B", sig := { parameters := [(.array .char), .int, .int], returnType := some (.array .byte) }, accessFlags := 9, code := some k10c2 }
def k10c3 : Code := { maxStack := 3, maxLocals := 7, code := jdk_52_method_21_code, exceptionTable := #[], attributes := #[] }
def k10m3 : Method := { name := "compress", desc := "([CI[BII)I", sig := { parameters := [(.array .char), .int, (.array .byte), .int, .int], returnType := some .int }, accessFlags := 9, code := some k10c3 }
/-- java/lang/StringUTF16 -/
def k10 : Class := { plain "java/lang/StringUTF16" (some 0) with
  accessFlags := 48
  interfaces := #[]
  cf := some (fileOf pool10 12 #[.nestMembers #[627, 629, 369]] #[{ accessFlags := 0, nameIndex := 9, descriptorIndex := 10, attributes := #[] }, { accessFlags := 8, nameIndex := 261, descriptorIndex := 262, attributes := #[] }, { accessFlags := 9, nameIndex := 117, descriptorIndex := 122, attributes := #[] }, { accessFlags := 9, nameIndex := 117, descriptorIndex := 118, attributes := #[] }] 48 6 #[] #[{ accessFlags := 26, nameIndex := 61, descriptorIndex := 62, attributes := #[] }, { accessFlags := 26, nameIndex := 65, descriptorIndex := 62, attributes := #[] }, { accessFlags := 24, nameIndex := 430, descriptorIndex := 62, attributes := #[] }, { accessFlags := 4120, nameIndex := 46, descriptorIndex := 47, attributes := #[] }])
  fields := #[{ name := "HI_BYTE_SHIFT", type := .int, accessFlags := 26, slot := 0, constantValue := 0 }, { name := "LO_BYTE_SHIFT", type := .int, accessFlags := 26, slot := 1, constantValue := 0 }, { name := "MAX_LENGTH", type := .int, accessFlags := 24, slot := 2, constantValue := 0 }, { name := "$assertionsDisabled", type := .boolean, accessFlags := 4120, slot := 3, constantValue := 0 }]
  methods := #[k10m0, k10m1, k10m2, k10m3]
  instanceTypes := #[]
  staticTypes := #[.int, .int, .int, .boolean]
  resolved := Array.replicate 635 none
  statics := none }

def pool11 : Array CpInfo := pool [(2, .class_ 4), (1, u "java/lang/Enum"), (0, u "name"), (0, u "Ljava/lang/String;"), (2, u "ordinal"), (0, u "I"), (1, .class_ 14), (1, u "java/lang/Object"), (4, u "hash"), (86, .class_ 108), (1, u "java/lang/Enum$EnumDesc"), (2, .class_ 112), (0, u "java/lang/constant/Constable"), (0, .class_ 114), (0, u "java/lang/Comparable"), (0, .class_ 116), (0, u "java/io/Serializable")] 87

/-- java/lang/Enum -/
def k11 : Class := { plain "java/lang/Enum" (some 0) with
  accessFlags := 1057
  interfaces := #[5, 3, 2]
  cf := some (fileOf pool11 2 #[.nestMembers #[106]] #[] 1057 12 #[111, 113, 115] #[{ accessFlags := 18, nameIndex := 5, descriptorIndex := 6, attributes := #[] }, { accessFlags := 18, nameIndex := 9, descriptorIndex := 10, attributes := #[] }, { accessFlags := 2, nameIndex := 19, descriptorIndex := 10, attributes := #[] }])
  fields := #[{ name := "name", type := (.object "java/lang/String"), accessFlags := 18, slot := 0, constantValue := 0 }, { name := "ordinal", type := .int, accessFlags := 18, slot := 1, constantValue := 0 }, { name := "hash", type := .int, accessFlags := 2, slot := 2, constantValue := 0 }]
  methods := #[]
  instanceTypes := #[(.object "java/lang/String"), .int, .int]
  staticTypes := #[]
  resolved := Array.replicate 204 none
  statics := none }

def pool12 : Array CpInfo := pool [(1, .class_ 2), (0, u "org/proofstand/runner/VmMode"), (2, u "SHARED"), (0, u "Lorg/proofstand/runner/VmMode;"), (2, u "FRESH"), (0, .fieldref 1 11), (0, .nameAndType 12 13), (0, u "$VALUES"), (0, u "[Lorg/proofstand/runner/VmMode;"), (0, .methodref 15 16), (0, .class_ 13), (0, .nameAndType 17 18), (0, u "clone"), (0, u "()Ljava/lang/Object;"), (1, .class_ 22), (1, u "java/lang/Enum"), (6, .fieldref 1 30), (0, .nameAndType 31 32), (0, u "word"), (0, u "Ljava/lang/String;"), (0, .methodref 1 34), (0, .nameAndType 35 36), (0, u "values"), (0, u "()[Lorg/proofstand/runner/VmMode;"), (0, .methodref 38 39), (0, .class_ 40), (0, .nameAndType 41 42), (0, u "java/lang/String"), (0, u "equals"), (0, u "(Ljava/lang/Object;)Z"), (0, .methodref 44 45), (0, .class_ 46), (0, .nameAndType 47 48), (0, u "java/util/Optional"), (0, u "of"), (0, u "(Ljava/lang/Object;)Ljava/util/Optional;"), (0, .methodref 44 50), (0, .nameAndType 51 52), (0, u "empty"), (0, u "()Ljava/util/Optional;"), (18, u "()Ljava/lang/String;"), (0, u "named"), (0, u "(Ljava/lang/String;)Ljava/util/Optional;")] 7

def k12c0 : Code := { maxStack := 1, maxLocals := 0, code := prog_100_method_1_code, exceptionTable := #[], attributes := #[] }
def k12m0 : Method := { name := "values", desc := "()[Lorg/proofstand/runner/VmMode;", sig := { parameters := [], returnType := some (.array (.object "org/proofstand/runner/VmMode")) }, accessFlags := 9, code := some k12c0 }
def k12c1 : Code := { maxStack := 1, maxLocals := 1, code := prog_100_method_4_code, exceptionTable := #[], attributes := #[] }
def k12m1 : Method := { name := "word", desc := "()Ljava/lang/String;", sig := { parameters := [], returnType := some (.object "java/lang/String") }, accessFlags := 1, code := some k12c1 }
def k12c2 : Code := { maxStack := 2, maxLocals := 5, code := prog_100_method_5_code, exceptionTable := #[], attributes := #[] }
def k12m2 : Method := { name := "named", desc := "(Ljava/lang/String;)Ljava/util/Optional;", sig := { parameters := [(.object "java/lang/String")], returnType := some (.object "java/util/Optional") }, accessFlags := 9, code := some k12c2 }
/-- org/proofstand/runner/VmMode -/
def k12 : Class := { plain "org/proofstand/runner/VmMode" (some 11) with
  accessFlags := 16433
  interfaces := #[]
  cf := some (fileOf pool12 1 #[] #[{ accessFlags := 9, nameIndex := 35, descriptorIndex := 36, attributes := #[] }, { accessFlags := 1, nameIndex := 31, descriptorIndex := 71, attributes := #[] }, { accessFlags := 9, nameIndex := 72, descriptorIndex := 73, attributes := #[] }] 16433 20 #[] #[{ accessFlags := 16409, nameIndex := 5, descriptorIndex := 6, attributes := #[] }, { accessFlags := 16409, nameIndex := 9, descriptorIndex := 6, attributes := #[] }, { accessFlags := 18, nameIndex := 31, descriptorIndex := 32, attributes := #[] }, { accessFlags := 4122, nameIndex := 12, descriptorIndex := 13, attributes := #[] }])
  fields := #[{ name := "SHARED", type := (.object "org/proofstand/runner/VmMode"), accessFlags := 16409, slot := 0, constantValue := 0 }, { name := "FRESH", type := (.object "org/proofstand/runner/VmMode"), accessFlags := 16409, slot := 1, constantValue := 0 }, { name := "word", type := (.object "java/lang/String"), accessFlags := 18, slot := 3, constantValue := 0 }, { name := "$VALUES", type := (.array (.object "org/proofstand/runner/VmMode")), accessFlags := 4122, slot := 2, constantValue := 0 }]
  methods := #[k12m0, k12m1, k12m2]
  instanceTypes := #[(.object "java/lang/String"), .int, .int, (.object "java/lang/String")]
  staticTypes := #[(.object "org/proofstand/runner/VmMode"), (.object "org/proofstand/runner/VmMode"), (.array (.object "org/proofstand/runner/VmMode"))]
  resolved := Array.replicate 81 none
  statics := some 2 }

def pool13 : Array CpInfo := pool [(1, .class_ 2), (0, u "java/lang/Cloneable"), (0, .class_ 4), (0, u "java/lang/Object")] 2

/-- java/lang/Cloneable -/
def k13 : Class := { plain "java/lang/Cloneable" (some 0) with
  accessFlags := 1537
  interfaces := #[]
  cf := some (fileOf pool13 1 #[] #[] 1537 3 #[] #[])
  fields := #[]
  methods := #[]
  instanceTypes := #[]
  staticTypes := #[]
  resolved := Array.replicate 7 none
  statics := none }

def pool14 : Array CpInfo := pool [(1, .fieldref 2 3), (0, .class_ 4), (0, .nameAndType 5 6), (0, u "java/util/Optional"), (0, u "EMPTY"), (0, u "Ljava/util/Optional;"), (0, .methodref 8 9), (0, .class_ 10), (0, .nameAndType 11 12), (0, u "java/lang/Object"), (0, u "<init>"), (0, u "()V"), (0, .fieldref 2 14), (0, .nameAndType 15 16), (0, u "value"), (0, u "Ljava/lang/Object;"), (0, .methodref 18 19), (0, .class_ 20), (0, .nameAndType 21 22), (0, u "java/util/Objects"), (0, u "requireNonNull"), (0, u "(Ljava/lang/Object;)Ljava/lang/Object;"), (0, .methodref 2 24), (0, .nameAndType 11 25), (0, u "(Ljava/lang/Object;)V"), (20, u "()Z"), (8, u "empty"), (0, u "()Ljava/util/Optional;"), (8, u "(Ljava/lang/Object;)Ljava/util/Optional;"), (2, u "isPresent"), (4, u "get"), (0, u "()Ljava/lang/Object;"), (7, u "of")] 104

def k14c0 : Code := { maxStack := 1, maxLocals := 1, code := jdk_32_method_1_code, exceptionTable := #[], attributes := #[] }
def k14m0 : Method := { name := "empty", desc := "()Ljava/util/Optional;", sig := { parameters := [], returnType := some (.object "java/util/Optional") }, accessFlags := 9, code := some k14c0 }
def k14c1 : Code := { maxStack := 2, maxLocals := 2, code := jdk_32_method_2_code, exceptionTable := #[], attributes := #[] }
def k14m1 : Method := { name := "<init>", desc := "(Ljava/lang/Object;)V", sig := { parameters := [(.object "java/lang/Object")], returnType := none }, accessFlags := 2, code := some k14c1 }
def k14c2 : Code := { maxStack := 3, maxLocals := 1, code := jdk_32_method_3_code, exceptionTable := #[], attributes := #[] }
def k14m2 : Method := { name := "of", desc := "(Ljava/lang/Object;)Ljava/util/Optional;", sig := { parameters := [(.object "java/lang/Object")], returnType := some (.object "java/util/Optional") }, accessFlags := 9, code := some k14c2 }
def k14c3 : Code := { maxStack := 3, maxLocals := 1, code := jdk_32_method_5_code, exceptionTable := #[], attributes := #[] }
def k14m3 : Method := { name := "get", desc := "()Ljava/lang/Object;", sig := { parameters := [], returnType := some (.object "java/lang/Object") }, accessFlags := 1, code := some k14c3 }
def k14c4 : Code := { maxStack := 1, maxLocals := 1, code := jdk_32_method_6_code, exceptionTable := #[], attributes := #[] }
def k14m4 : Method := { name := "isPresent", desc := "()Z", sig := { parameters := [], returnType := some .boolean }, accessFlags := 1, code := some k14c4 }
/-- java/util/Optional -/
def k14 : Class := { plain "java/util/Optional" (some 0) with
  accessFlags := 49
  interfaces := #[]
  cf := some (fileOf pool14 2 #[] #[{ accessFlags := 9, nameIndex := 55, descriptorIndex := 56, attributes := #[] }, { accessFlags := 2, nameIndex := 11, descriptorIndex := 25, attributes := #[] }, { accessFlags := 9, nameIndex := 82, descriptorIndex := 65, attributes := #[] }, { accessFlags := 1, nameIndex := 73, descriptorIndex := 74, attributes := #[] }, { accessFlags := 1, nameIndex := 68, descriptorIndex := 46, attributes := #[] }] 49 8 #[] #[{ accessFlags := 26, nameIndex := 5, descriptorIndex := 6, attributes := #[] }, { accessFlags := 18, nameIndex := 15, descriptorIndex := 16, attributes := #[] }])
  fields := #[{ name := "EMPTY", type := (.object "java/util/Optional"), accessFlags := 26, slot := 0, constantValue := 0 }, { name := "value", type := (.object "java/lang/Object"), accessFlags := 18, slot := 0, constantValue := 0 }]
  methods := #[k14m0, k14m1, k14m2, k14m3, k14m4]
  instanceTypes := #[(.object "java/lang/Object")]
  staticTypes := #[(.object "java/util/Optional")]
  resolved := Array.replicate 187 none
  statics := some 3 }

def pool15 : Array CpInfo := pool [(2, .class_ 4), (1, u "java/lang/Object"), (0, u "<init>"), (0, u "()V"), (35, .class_ 44), (1, u "java/util/Objects"), (0, u "requireNonNull"), (0, u "(Ljava/lang/Object;)Ljava/lang/Object;")] 137

def k15m0 : Method := { name := "<init>", desc := "()V", sig := { parameters := [], returnType := none }, accessFlags := 2, code := none }
def k15c1 : Code := { maxStack := 2, maxLocals := 1, code := jdk_31_method_10_code, exceptionTable := #[], attributes := #[] }
def k15m1 : Method := { name := "requireNonNull", desc := "(Ljava/lang/Object;)Ljava/lang/Object;", sig := { parameters := [(.object "java/lang/Object")], returnType := some (.object "java/lang/Object") }, accessFlags := 9, code := some k15c1 }
/-- java/util/Objects -/
def k15 : Class := { plain "java/util/Objects" (some 0) with
  accessFlags := 49
  interfaces := #[]
  cf := some (fileOf pool15 42 #[] #[{ accessFlags := 2, nameIndex := 5, descriptorIndex := 6, attributes := #[] }, { accessFlags := 9, nameIndex := 45, descriptorIndex := 46, attributes := #[] }] 49 2 #[] #[])
  fields := #[]
  methods := #[k15m0, k15m1]
  instanceTypes := #[]
  staticTypes := #[]
  resolved := Array.replicate 184 none
  statics := none }

def pool16 : Array CpInfo := pool [(9, u "<init>"), (6, .class_ 18), (1, u "java/lang/Object"), (0, u "()V"), (1, .class_ 23), (1, u "jdk/internal/util/ArraysSupport"), (0, u "LOG2_ARRAY_LONG_INDEX_SCALE"), (0, u "I"), (2, u "U"), (0, u "Ljdk/internal/misc/Unsafe;"), (8, u "BIG_ENDIAN"), (0, u "Z"), (8, u "LOG2_BYTE_BIT_SIZE"), (4, u "LOG2_ARRAY_INT_INDEX_SCALE"), (54, u "JLA"), (0, u "Ljdk/internal/access/JavaLangAccess;"), (11, u "LOG2_ARRAY_BOOLEAN_INDEX_SCALE"), (9, u "LOG2_ARRAY_BYTE_INDEX_SCALE"), (5, u "LOG2_ARRAY_CHAR_INDEX_SCALE"), (5, u "LOG2_ARRAY_SHORT_INDEX_SCALE"), (18, u "LOG2_ARRAY_FLOAT_INDEX_SCALE"), (24, u "LOG2_ARRAY_DOUBLE_INDEX_SCALE"), (89, u "T_BOOLEAN"), (2, u "T_CHAR"), (1, u "T_FLOAT"), (1, u "T_DOUBLE"), (1, u "T_BYTE"), (1, u "T_SHORT"), (1, u "T_INT"), (1, u "T_LONG"), (1, u "SOFT_MAX_ARRAY_LENGTH")] 83

def k16m0 : Method := { name := "<init>", desc := "()V", sig := { parameters := [], returnType := none }, accessFlags := 2, code := none }
/-- jdk/internal/util/ArraysSupport -/
def k16 : Class := { plain "jdk/internal/util/ArraysSupport" (some 0) with
  accessFlags := 33
  interfaces := #[]
  cf := some (fileOf pool16 21 #[] #[{ accessFlags := 2, nameIndex := 9, descriptorIndex := 19, attributes := #[] }] 33 16 #[] #[{ accessFlags := 24, nameIndex := 28, descriptorIndex := 29, attributes := #[] }, { accessFlags := 26, nameIndex := 38, descriptorIndex := 39, attributes := #[] }, { accessFlags := 25, nameIndex := 121, descriptorIndex := 25, attributes := #[] }, { accessFlags := 25, nameIndex := 131, descriptorIndex := 25, attributes := #[] }, { accessFlags := 25, nameIndex := 137, descriptorIndex := 25, attributes := #[] }, { accessFlags := 25, nameIndex := 143, descriptorIndex := 25, attributes := #[] }, { accessFlags := 25, nameIndex := 53, descriptorIndex := 25, attributes := #[] }, { accessFlags := 25, nameIndex := 24, descriptorIndex := 25, attributes := #[] }, { accessFlags := 25, nameIndex := 162, descriptorIndex := 25, attributes := #[] }, { accessFlags := 25, nameIndex := 187, descriptorIndex := 25, attributes := #[] }, { accessFlags := 26, nameIndex := 48, descriptorIndex := 25, attributes := #[] }, { accessFlags := 25, nameIndex := 277, descriptorIndex := 25, attributes := #[] }, { accessFlags := 25, nameIndex := 280, descriptorIndex := 25, attributes := #[] }, { accessFlags := 25, nameIndex := 282, descriptorIndex := 25, attributes := #[] }, { accessFlags := 25, nameIndex := 284, descriptorIndex := 25, attributes := #[] }, { accessFlags := 25, nameIndex := 286, descriptorIndex := 25, attributes := #[] }, { accessFlags := 25, nameIndex := 288, descriptorIndex := 25, attributes := #[] }, { accessFlags := 25, nameIndex := 290, descriptorIndex := 25, attributes := #[] }, { accessFlags := 25, nameIndex := 292, descriptorIndex := 25, attributes := #[] }, { accessFlags := 26, nameIndex := 108, descriptorIndex := 109, attributes := #[] }, { accessFlags := 25, nameIndex := 294, descriptorIndex := 25, attributes := #[] }])
  fields := #[{ name := "U", type := (.object "jdk/internal/misc/Unsafe"), accessFlags := 24, slot := 0, constantValue := 0 }, { name := "BIG_ENDIAN", type := .boolean, accessFlags := 26, slot := 1, constantValue := 0 }, { name := "LOG2_ARRAY_BOOLEAN_INDEX_SCALE", type := .int, accessFlags := 25, slot := 2, constantValue := 0 }, { name := "LOG2_ARRAY_BYTE_INDEX_SCALE", type := .int, accessFlags := 25, slot := 3, constantValue := 0 }, { name := "LOG2_ARRAY_CHAR_INDEX_SCALE", type := .int, accessFlags := 25, slot := 4, constantValue := 0 }, { name := "LOG2_ARRAY_SHORT_INDEX_SCALE", type := .int, accessFlags := 25, slot := 5, constantValue := 0 }, { name := "LOG2_ARRAY_INT_INDEX_SCALE", type := .int, accessFlags := 25, slot := 6, constantValue := 0 }, { name := "LOG2_ARRAY_LONG_INDEX_SCALE", type := .int, accessFlags := 25, slot := 7, constantValue := 0 }, { name := "LOG2_ARRAY_FLOAT_INDEX_SCALE", type := .int, accessFlags := 25, slot := 8, constantValue := 0 }, { name := "LOG2_ARRAY_DOUBLE_INDEX_SCALE", type := .int, accessFlags := 25, slot := 9, constantValue := 0 }, { name := "LOG2_BYTE_BIT_SIZE", type := .int, accessFlags := 26, slot := 10, constantValue := 0 }, { name := "T_BOOLEAN", type := .int, accessFlags := 25, slot := 11, constantValue := 0 }, { name := "T_CHAR", type := .int, accessFlags := 25, slot := 12, constantValue := 0 }, { name := "T_FLOAT", type := .int, accessFlags := 25, slot := 13, constantValue := 0 }, { name := "T_DOUBLE", type := .int, accessFlags := 25, slot := 14, constantValue := 0 }, { name := "T_BYTE", type := .int, accessFlags := 25, slot := 15, constantValue := 0 }, { name := "T_SHORT", type := .int, accessFlags := 25, slot := 16, constantValue := 0 }, { name := "T_INT", type := .int, accessFlags := 25, slot := 17, constantValue := 0 }, { name := "T_LONG", type := .int, accessFlags := 25, slot := 18, constantValue := 0 }, { name := "JLA", type := (.object "jdk/internal/access/JavaLangAccess"), accessFlags := 26, slot := 19, constantValue := 0 }, { name := "SOFT_MAX_ARRAY_LENGTH", type := .int, accessFlags := 25, slot := 20, constantValue := 0 }]
  methods := #[k16m0]
  instanceTypes := #[]
  staticTypes := #[(.object "jdk/internal/misc/Unsafe"), .boolean, .int, .int, .int, .int, .int, .int, .int, .int, .int, .int, .int, .int, .int, .int, .int, .int, .int, (.object "jdk/internal/access/JavaLangAccess"), .int]
  resolved := Array.replicate 378 none
  statics := none }

/-- the primitive byte -/
def k17 : Class := { plain "byte" none with kind := .primitive 'B', accessFlags := 0x411 }
/-- [B -/
def k18 : Class := { plain "[B" (some 0) with kind := .array 17 .byte, interfaces := #[13, 2], accessFlags := 1041 }

/-- the primitive char -/
def k19 : Class := { plain "char" none with kind := .primitive 'C', accessFlags := 0x411 }
/-- [C -/
def k20 : Class := { plain "[C" (some 0) with kind := .array 19 .char, interfaces := #[13, 2], accessFlags := 1041 }

/-- the primitive int -/
def k21 : Class := { plain "int" none with kind := .primitive 'I', accessFlags := 0x411 }
/-- [I -/
def k22 : Class := { plain "[I" (some 0) with kind := .array 21 .int, interfaces := #[13, 2], accessFlags := 1041 }

/-- [Lorg/proofstand/runner/VmMode; -/
def k23 : Class := { plain "[Lorg/proofstand/runner/VmMode;" (some 0) with kind := .array 12 (.object "org/proofstand/runner/VmMode"), interfaces := #[13, 2], accessFlags := 1041 }

def heap : Heap := #[{ cls := 7, slots := #[.long 0, .int 1, .null, .int 0, .null, .int 0, .int 0], vm := .statics 7 },
  { cls := 9, slots := #[.null, .null, .null], vm := .statics 9 },
  { cls := 12, slots := #[.ref 5, .ref 6, .ref 4], vm := .statics 12 },
  { cls := 14, slots := #[.ref 11], vm := .statics 14 },
  { cls := 23, slots := #[.ref 5, .ref 6], vm := .none },
  { cls := 12, slots := #[.null, .int 0, .int 0, .ref 7], vm := .none },
  { cls := 12, slots := #[.null, .int 1, .int 0, .ref 8], vm := .none },
  { cls := 7, slots := #[.ref 9, .int 0, .int 0, .int 0], vm := .none },
  { cls := 7, slots := #[.ref 10, .int 0, .int 0, .int 0], vm := .none },
  { cls := 18, slots := #[.int 115, .int 104, .int 97, .int 114, .int 101, .int 100], vm := .none },
  { cls := 18, slots := #[.int 102, .int 114, .int 101, .int 115, .int 104], vm := .none },
  { cls := 14, slots := #[.null], vm := .none }]
def classes : Array Class := #[k0, k1, k2, k3, k4, k5, k6, k7, k8, k9, k10, k11, k12, k13, k14, k15, k16, k17, k18, k19, k20, k21, k22, k23]
def interned : List (Array UInt16 × Addr) := []
def slotsUsed : Nat := 44
def theMethod : MethodId := ⟨1, 3⟩
def args0 : Array Value := #[.int 5, .int 5, .int 5, .int 5]
def aboutOver (below : List Frame) : State where
  vm := { classes := classes, interned := interned.toArray }
  heap := heap
  slotsUsed := slotsUsed
  threads := #[{ frames := .invoking theMethod args0 :: below }]
def below0 : List Frame := [.native { method := ⟨0, 0⟩, args := #[] }]
def about1 : State := aboutOver below0
def p0 : Program := .bare "" "" ""
def e0 : Env := launch0.env 0 0 0
theorem w_frames : about1.frames = Frame.invoking theMethod args0 :: below0 := rfl
set_option maxRecDepth 65536 in
theorem w_args : argsFit about1.vm theMethod args0 = true := by decide +kernel
set_option maxRecDepth 65536 in
theorem w_heap : heapFits about1 = true := by decide +kernel
set_option maxRecDepth 65536 in
theorem w_runnable : about1.curStatus? = some .runnable := by decide +kernel
set_option maxRecDepth 65536 in
theorem w_alone : about1.alone = true := by decide +kernel
set_option maxRecDepth 65536 in
theorem w_named : about1.methodNamed? x = some theMethod := by decide +kernel
set_option maxRecDepth 65536 in
theorem w_hears : about1.hears theMethod below0 = true := by decide +kernel
set_option maxRecDepth 65536 in
theorem w_ripe : about1.ripe theMethod args0 below0 = true := by decide +kernel
theorem w_running : about1.status = .running := rfl
set_option maxRecDepth 65536 in
theorem w_room : about1.hasRoom e0.platform room_1 = true :=
  launch0.hasRoom_least _ room_1 (by decide +kernel) (by decide +kernel) (by decide +kernel) (by decide +kernel) (by decide +kernel) (by decide +kernel)
theorem allAtoms_all (ts : List Jvm.Cond) (a : Array Jvm.Value) (st : Jvm.State) : (allAtoms ts).before a st = ts.all (fun c => c.before a st) := by
  induction ts with
  | nil => rfl
  | cons c t ih =>
    show (Jvm.Cond.and c (allAtoms t)).before a st = _
    rw [Jvm.Cond.before_and, ih, List.all_cons]
def words1 : List Jvm.Cond := Jvm.Cond.code x code maxLocals ret :: tables_1
/-- a 'code' word, met by the world's own term for the bytes: nothing is compared byte by byte -/
theorem code_word {y : MethodName} {bytes : ByteArray} {mx : Nat} {rt : Option FieldType} {a : Array Value} {s : State} {m : MethodId} {meth : Method} {c : Code} (h1 : s.methodNamed? y = some m) (h2 : s.vm.method? m = some meth) (h3 : meth.code = some c) (h4 : c.code = bytes)
    (h5 : (c.maxLocals == mx && c.exceptionTable.isEmpty && decide (c.maxStack ≤ mostOperands) && decide (meth.sig.returnType = rt) && !meth.locks && decide (parseMethodDescriptor y.desc = some meth.sig)) = true) : (Jvm.Cond.code y bytes mx rt).before a s = true := by
  simp only [Bool.and_eq_true, beq_iff_eq, Bool.not_eq_true', decide_eq_true_eq] at h5
  obtain ⟨⟨⟨⟨⟨g1, g2⟩, g3⟩, g4⟩, g5⟩, g6⟩ := h5
  simp [Cond.before, Cond.holds, Cond.value, h1, h2, h3, h4, g1, g2, g3, g4, g5, g6]
def isCode : Jvm.Cond → Bool
  | .code _ _ _ _ => true
  | _ => false
theorem all_split {L : List Jvm.Cond} {P : Jvm.Cond → Bool} (h1 : L.all (fun c => isCode c || P c) = true) (h2 : ∀ c ∈ L.filter isCode, P c = true) : L.all P = true := by
  refine List.all_eq_true.mpr fun c hc => ?_
  have h := List.all_eq_true.mp h1 c hc
  rcases Bool.eq_false_or_eq_true (isCode c) with hi | hi
  · exact h2 c (List.mem_filter.mpr ⟨hc, hi⟩)
  · simpa [hi] using h
set_option maxRecDepth 65536 in
theorem w_c0 : (Jvm.Cond.code x code maxLocals ret).before args0 about1 = true := code_word (m := ⟨1, 3⟩) (meth := k1m3) (c := k1c3) (by decide +kernel) rfl rfl rfl (by decide +kernel)
set_option maxRecDepth 65536 in
theorem w_c1 : (Jvm.Cond.code ({ cls := "org/proofstand/runner/VmModeNamedPinLaw", name := "build", desc := "(Ljava/lang/String;IIZCC)Ljava/lang/String;" } : Jvm.MethodName) method_3_code (13 : Nat) (Option.some (Jvm.ClassFile.FieldType.object "java/lang/String"))).before args0 about1 = true := code_word (m := ⟨1, 2⟩) (meth := k1m2) (c := k1c2) (by decide +kernel) rfl rfl rfl (by decide +kernel)
set_option maxRecDepth 65536 in
theorem w_c2 : (Jvm.Cond.code ({ cls := "org/proofstand/runner/VmModeNamedPinLaw", name := "at", desc := "(Ljava/lang/String;IIZCC)C" } : Jvm.MethodName) method_2_code (6 : Nat) (Option.some Jvm.ClassFile.FieldType.char)).before args0 about1 = true := code_word (m := ⟨1, 1⟩) (meth := k1m1) (c := k1c1) (by decide +kernel) rfl rfl rfl (by decide +kernel)
set_option maxRecDepth 65536 in
theorem w_c3 : (Jvm.Cond.code ({ cls := "java/lang/String", name := "length", desc := "()I" } : Jvm.MethodName) jdk_42_method_54_code (1 : Nat) (Option.some Jvm.ClassFile.FieldType.int)).before args0 about1 = true := code_word (m := ⟨7, 2⟩) (meth := k7m2) (c := k7c2) (by decide +kernel) rfl rfl rfl (by decide +kernel)
set_option maxRecDepth 65536 in
theorem w_c4 : (Jvm.Cond.code ({ cls := "java/lang/String", name := "coder", desc := "()B" } : Jvm.MethodName) jdk_42_method_152_code (1 : Nat) (Option.some Jvm.ClassFile.FieldType.byte)).before args0 about1 = true := code_word (m := ⟨7, 6⟩) (meth := k7m6) (c := k7c6) (by decide +kernel) rfl rfl rfl (by decide +kernel)
set_option maxRecDepth 65536 in
theorem w_c5 : (Jvm.Cond.code ({ cls := "java/lang/String", name := "charAt", desc := "(I)C" } : Jvm.MethodName) jdk_42_method_56_code (2 : Nat) (Option.some Jvm.ClassFile.FieldType.char)).before args0 about1 = true := code_word (m := ⟨7, 3⟩) (meth := k7m3) (c := k7c3) (by decide +kernel) rfl rfl rfl (by decide +kernel)
set_option maxRecDepth 65536 in
theorem w_c6 : (Jvm.Cond.code ({ cls := "java/lang/String", name := "isLatin1", desc := "()Z" } : Jvm.MethodName) jdk_42_method_154_code (1 : Nat) (Option.some Jvm.ClassFile.FieldType.boolean)).before args0 about1 = true := code_word (m := ⟨7, 7⟩) (meth := k7m7) (c := k7c7) (by decide +kernel) rfl rfl rfl (by decide +kernel)
set_option maxRecDepth 65536 in
theorem w_c7 : (Jvm.Cond.code ({ cls := "java/lang/StringLatin1", name := "charAt", desc := "([BI)C" } : Jvm.MethodName) jdk_43_method_2_code (2 : Nat) (Option.some Jvm.ClassFile.FieldType.char)).before args0 about1 = true := code_word (m := ⟨8, 1⟩) (meth := k8m1) (c := k8c1) (by decide +kernel) rfl rfl rfl (by decide +kernel)
set_option maxRecDepth 65536 in
theorem w_c8 : (Jvm.Cond.code ({ cls := "java/lang/String", name := "checkIndex", desc := "(II)V" } : Jvm.MethodName) jdk_42_method_155_code (2 : Nat) (Option.none : Option Jvm.ClassFile.FieldType)).before args0 about1 = true := code_word (m := ⟨7, 8⟩) (meth := k7m8) (c := k7c8) (by decide +kernel) rfl rfl rfl (by decide +kernel)
set_option maxRecDepth 65536 in
theorem w_c9 : (Jvm.Cond.code ({ cls := "jdk/internal/util/Preconditions", name := "checkIndex", desc := "(IILjava/util/function/BiFunction;)I" } : Jvm.MethodName) jdk_41_method_11_code (3 : Nat) (Option.some Jvm.ClassFile.FieldType.int)).before args0 about1 = true := code_word (m := ⟨9, 1⟩) (meth := k9m1) (c := k9c1) (by decide +kernel) rfl rfl rfl (by decide +kernel)
set_option maxRecDepth 65536 in
theorem w_c10 : (Jvm.Cond.code ({ cls := "java/lang/String", name := "<init>", desc := "([C)V" } : Jvm.MethodName) jdk_42_method_3_code (2 : Nat) (Option.none : Option Jvm.ClassFile.FieldType)).before args0 about1 = true := code_word (m := ⟨7, 1⟩) (meth := k7m1) (c := k7c1) (by decide +kernel) rfl rfl rfl (by decide +kernel)
set_option maxRecDepth 65536 in
theorem w_c11 : (Jvm.Cond.code ({ cls := "java/lang/String", name := "<init>", desc := "([CIILjava/lang/Void;)V" } : Jvm.MethodName) jdk_42_method_149_code (6 : Nat) (Option.none : Option Jvm.ClassFile.FieldType)).before args0 about1 = true := code_word (m := ⟨7, 5⟩) (meth := k7m5) (c := k7c5) (by decide +kernel) rfl rfl rfl (by decide +kernel)
set_option maxRecDepth 65536 in
theorem w_c12 : (Jvm.Cond.code ({ cls := "java/lang/Object", name := "<init>", desc := "()V" } : Jvm.MethodName) object_method_1_code (1 : Nat) (Option.none : Option Jvm.ClassFile.FieldType)).before args0 about1 = true := code_word (m := ⟨0, 0⟩) (meth := k0m0) (c := k0c0) (by decide +kernel) rfl rfl rfl (by decide +kernel)
set_option maxRecDepth 65536 in
theorem w_c13 : (Jvm.Cond.code ({ cls := "java/lang/StringUTF16", name := "compress", desc := "([CII)[B" } : Jvm.MethodName) jdk_52_method_16_code (6 : Nat) (Option.some (Jvm.ClassFile.FieldType.array Jvm.ClassFile.FieldType.byte))).before args0 about1 = true := code_word (m := ⟨10, 2⟩) (meth := k10m2) (c := k10c2) (by decide +kernel) rfl rfl rfl (by decide +kernel)
set_option maxRecDepth 65536 in
theorem w_c14 : (Jvm.Cond.code ({ cls := "java/lang/StringUTF16", name := "compress", desc := "([CI[BII)I" } : Jvm.MethodName) jdk_52_method_21_code (7 : Nat) (Option.some Jvm.ClassFile.FieldType.int)).before args0 about1 = true := code_word (m := ⟨10, 3⟩) (meth := k10m3) (c := k10c3) (by decide +kernel) rfl rfl rfl (by decide +kernel)
set_option maxRecDepth 65536 in
theorem w_c15 : (Jvm.Cond.code ({ cls := "java/lang/StringUTF16", name := "coderFromArrayLen", desc := "([BI)B" } : Jvm.MethodName) jdk_52_method_15_code (2 : Nat) (Option.some Jvm.ClassFile.FieldType.byte)).before args0 about1 = true := code_word (m := ⟨10, 1⟩) (meth := k10m1) (c := k10c1) (by decide +kernel) rfl rfl rfl (by decide +kernel)
set_option maxRecDepth 65536 in
theorem w_c16 : (Jvm.Cond.code ({ cls := "org/proofstand/runner/VmMode", name := "named", desc := "(Ljava/lang/String;)Ljava/util/Optional;" } : Jvm.MethodName) prog_100_method_5_code (5 : Nat) (Option.some (Jvm.ClassFile.FieldType.object "java/util/Optional"))).before args0 about1 = true := code_word (m := ⟨12, 2⟩) (meth := k12m2) (c := k12c2) (by decide +kernel) rfl rfl rfl (by decide +kernel)
set_option maxRecDepth 65536 in
theorem w_c17 : (Jvm.Cond.code ({ cls := "org/proofstand/runner/VmMode", name := "values", desc := "()[Lorg/proofstand/runner/VmMode;" } : Jvm.MethodName) prog_100_method_1_code (0 : Nat) (Option.some (Jvm.ClassFile.FieldType.array (Jvm.ClassFile.FieldType.object "org/proofstand/runner/VmMode")))).before args0 about1 = true := code_word (m := ⟨12, 0⟩) (meth := k12m0) (c := k12c0) (by decide +kernel) rfl rfl rfl (by decide +kernel)
set_option maxRecDepth 65536 in
theorem w_c18 : (Jvm.Cond.code ({ cls := "java/lang/String", name := "equals", desc := "(Ljava/lang/Object;)Z" } : Jvm.MethodName) jdk_42_method_66_code (3 : Nat) (Option.some Jvm.ClassFile.FieldType.boolean)).before args0 about1 = true := code_word (m := ⟨7, 4⟩) (meth := k7m4) (c := k7c4) (by decide +kernel) rfl rfl rfl (by decide +kernel)
set_option maxRecDepth 65536 in
theorem w_c19 : (Jvm.Cond.code ({ cls := "java/lang/StringLatin1", name := "equals", desc := "([B[B)Z" } : Jvm.MethodName) jdk_43_method_13_code (3 : Nat) (Option.some Jvm.ClassFile.FieldType.boolean)).before args0 about1 = true := code_word (m := ⟨8, 2⟩) (meth := k8m2) (c := k8c2) (by decide +kernel) rfl rfl rfl (by decide +kernel)
set_option maxRecDepth 65536 in
theorem w_c20 : (Jvm.Cond.code ({ cls := "java/util/Optional", name := "empty", desc := "()Ljava/util/Optional;" } : Jvm.MethodName) jdk_32_method_1_code (1 : Nat) (Option.some (Jvm.ClassFile.FieldType.object "java/util/Optional"))).before args0 about1 = true := code_word (m := ⟨14, 0⟩) (meth := k14m0) (c := k14c0) (by decide +kernel) rfl rfl rfl (by decide +kernel)
set_option maxRecDepth 65536 in
theorem w_c21 : (Jvm.Cond.code ({ cls := "java/util/Optional", name := "isPresent", desc := "()Z" } : Jvm.MethodName) jdk_32_method_6_code (1 : Nat) (Option.some Jvm.ClassFile.FieldType.boolean)).before args0 about1 = true := code_word (m := ⟨14, 4⟩) (meth := k14m4) (c := k14c4) (by decide +kernel) rfl rfl rfl (by decide +kernel)
set_option maxRecDepth 65536 in
theorem w_c22 : (Jvm.Cond.code ({ cls := "java/util/Optional", name := "of", desc := "(Ljava/lang/Object;)Ljava/util/Optional;" } : Jvm.MethodName) jdk_32_method_3_code (1 : Nat) (Option.some (Jvm.ClassFile.FieldType.object "java/util/Optional"))).before args0 about1 = true := code_word (m := ⟨14, 2⟩) (meth := k14m2) (c := k14c2) (by decide +kernel) rfl rfl rfl (by decide +kernel)
set_option maxRecDepth 65536 in
theorem w_c23 : (Jvm.Cond.code ({ cls := "java/util/Objects", name := "requireNonNull", desc := "(Ljava/lang/Object;)Ljava/lang/Object;" } : Jvm.MethodName) jdk_31_method_10_code (1 : Nat) (Option.some (Jvm.ClassFile.FieldType.object "java/lang/Object"))).before args0 about1 = true := code_word (m := ⟨15, 1⟩) (meth := k15m1) (c := k15c1) (by decide +kernel) rfl rfl rfl (by decide +kernel)
set_option maxRecDepth 65536 in
theorem w_c24 : (Jvm.Cond.code ({ cls := "java/util/Optional", name := "<init>", desc := "(Ljava/lang/Object;)V" } : Jvm.MethodName) jdk_32_method_2_code (2 : Nat) (Option.none : Option Jvm.ClassFile.FieldType)).before args0 about1 = true := code_word (m := ⟨14, 1⟩) (meth := k14m1) (c := k14c1) (by decide +kernel) rfl rfl rfl (by decide +kernel)
set_option maxRecDepth 65536 in
theorem w_c25 : (Jvm.Cond.code ({ cls := "java/util/Optional", name := "get", desc := "()Ljava/lang/Object;" } : Jvm.MethodName) jdk_32_method_5_code (1 : Nat) (Option.some (Jvm.ClassFile.FieldType.object "java/lang/Object"))).before args0 about1 = true := code_word (m := ⟨14, 3⟩) (meth := k14m3) (c := k14c3) (by decide +kernel) rfl rfl rfl (by decide +kernel)
set_option maxRecDepth 65536 in
theorem w_c26 : (Jvm.Cond.code ({ cls := "org/proofstand/runner/VmMode", name := "word", desc := "()Ljava/lang/String;" } : Jvm.MethodName) prog_100_method_4_code (1 : Nat) (Option.some (Jvm.ClassFile.FieldType.object "java/lang/String"))).before args0 about1 = true := code_word (m := ⟨12, 1⟩) (meth := k12m1) (c := k12c1) (by decide +kernel) rfl rfl rfl (by decide +kernel)
def codes1 : List Jvm.Cond := [Jvm.Cond.code x code maxLocals ret, Jvm.Cond.code ({ cls := "org/proofstand/runner/VmModeNamedPinLaw", name := "build", desc := "(Ljava/lang/String;IIZCC)Ljava/lang/String;" } : Jvm.MethodName) method_3_code (13 : Nat) (Option.some (Jvm.ClassFile.FieldType.object "java/lang/String")), Jvm.Cond.code ({ cls := "org/proofstand/runner/VmModeNamedPinLaw", name := "at", desc := "(Ljava/lang/String;IIZCC)C" } : Jvm.MethodName) method_2_code (6 : Nat) (Option.some Jvm.ClassFile.FieldType.char), Jvm.Cond.code ({ cls := "java/lang/String", name := "length", desc := "()I" } : Jvm.MethodName) jdk_42_method_54_code (1 : Nat) (Option.some Jvm.ClassFile.FieldType.int), Jvm.Cond.code ({ cls := "java/lang/String", name := "coder", desc := "()B" } : Jvm.MethodName) jdk_42_method_152_code (1 : Nat) (Option.some Jvm.ClassFile.FieldType.byte), Jvm.Cond.code ({ cls := "java/lang/String", name := "charAt", desc := "(I)C" } : Jvm.MethodName) jdk_42_method_56_code (2 : Nat) (Option.some Jvm.ClassFile.FieldType.char), Jvm.Cond.code ({ cls := "java/lang/String", name := "isLatin1", desc := "()Z" } : Jvm.MethodName) jdk_42_method_154_code (1 : Nat) (Option.some Jvm.ClassFile.FieldType.boolean), Jvm.Cond.code ({ cls := "java/lang/StringLatin1", name := "charAt", desc := "([BI)C" } : Jvm.MethodName) jdk_43_method_2_code (2 : Nat) (Option.some Jvm.ClassFile.FieldType.char), Jvm.Cond.code ({ cls := "java/lang/String", name := "checkIndex", desc := "(II)V" } : Jvm.MethodName) jdk_42_method_155_code (2 : Nat) (Option.none : Option Jvm.ClassFile.FieldType), Jvm.Cond.code ({ cls := "jdk/internal/util/Preconditions", name := "checkIndex", desc := "(IILjava/util/function/BiFunction;)I" } : Jvm.MethodName) jdk_41_method_11_code (3 : Nat) (Option.some Jvm.ClassFile.FieldType.int), Jvm.Cond.code ({ cls := "java/lang/String", name := "<init>", desc := "([C)V" } : Jvm.MethodName) jdk_42_method_3_code (2 : Nat) (Option.none : Option Jvm.ClassFile.FieldType), Jvm.Cond.code ({ cls := "java/lang/String", name := "<init>", desc := "([CIILjava/lang/Void;)V" } : Jvm.MethodName) jdk_42_method_149_code (6 : Nat) (Option.none : Option Jvm.ClassFile.FieldType), Jvm.Cond.code ({ cls := "java/lang/Object", name := "<init>", desc := "()V" } : Jvm.MethodName) object_method_1_code (1 : Nat) (Option.none : Option Jvm.ClassFile.FieldType), Jvm.Cond.code ({ cls := "java/lang/StringUTF16", name := "compress", desc := "([CII)[B" } : Jvm.MethodName) jdk_52_method_16_code (6 : Nat) (Option.some (Jvm.ClassFile.FieldType.array Jvm.ClassFile.FieldType.byte)), Jvm.Cond.code ({ cls := "java/lang/StringUTF16", name := "compress", desc := "([CI[BII)I" } : Jvm.MethodName) jdk_52_method_21_code (7 : Nat) (Option.some Jvm.ClassFile.FieldType.int), Jvm.Cond.code ({ cls := "java/lang/StringUTF16", name := "coderFromArrayLen", desc := "([BI)B" } : Jvm.MethodName) jdk_52_method_15_code (2 : Nat) (Option.some Jvm.ClassFile.FieldType.byte), Jvm.Cond.code ({ cls := "org/proofstand/runner/VmMode", name := "named", desc := "(Ljava/lang/String;)Ljava/util/Optional;" } : Jvm.MethodName) prog_100_method_5_code (5 : Nat) (Option.some (Jvm.ClassFile.FieldType.object "java/util/Optional")), Jvm.Cond.code ({ cls := "org/proofstand/runner/VmMode", name := "values", desc := "()[Lorg/proofstand/runner/VmMode;" } : Jvm.MethodName) prog_100_method_1_code (0 : Nat) (Option.some (Jvm.ClassFile.FieldType.array (Jvm.ClassFile.FieldType.object "org/proofstand/runner/VmMode"))), Jvm.Cond.code ({ cls := "java/lang/String", name := "equals", desc := "(Ljava/lang/Object;)Z" } : Jvm.MethodName) jdk_42_method_66_code (3 : Nat) (Option.some Jvm.ClassFile.FieldType.boolean), Jvm.Cond.code ({ cls := "java/lang/StringLatin1", name := "equals", desc := "([B[B)Z" } : Jvm.MethodName) jdk_43_method_13_code (3 : Nat) (Option.some Jvm.ClassFile.FieldType.boolean), Jvm.Cond.code ({ cls := "java/util/Optional", name := "empty", desc := "()Ljava/util/Optional;" } : Jvm.MethodName) jdk_32_method_1_code (1 : Nat) (Option.some (Jvm.ClassFile.FieldType.object "java/util/Optional")), Jvm.Cond.code ({ cls := "java/util/Optional", name := "isPresent", desc := "()Z" } : Jvm.MethodName) jdk_32_method_6_code (1 : Nat) (Option.some Jvm.ClassFile.FieldType.boolean), Jvm.Cond.code ({ cls := "java/util/Optional", name := "of", desc := "(Ljava/lang/Object;)Ljava/util/Optional;" } : Jvm.MethodName) jdk_32_method_3_code (1 : Nat) (Option.some (Jvm.ClassFile.FieldType.object "java/util/Optional")), Jvm.Cond.code ({ cls := "java/util/Objects", name := "requireNonNull", desc := "(Ljava/lang/Object;)Ljava/lang/Object;" } : Jvm.MethodName) jdk_31_method_10_code (1 : Nat) (Option.some (Jvm.ClassFile.FieldType.object "java/lang/Object")), Jvm.Cond.code ({ cls := "java/util/Optional", name := "<init>", desc := "(Ljava/lang/Object;)V" } : Jvm.MethodName) jdk_32_method_2_code (2 : Nat) (Option.none : Option Jvm.ClassFile.FieldType), Jvm.Cond.code ({ cls := "java/util/Optional", name := "get", desc := "()Ljava/lang/Object;" } : Jvm.MethodName) jdk_32_method_5_code (1 : Nat) (Option.some (Jvm.ClassFile.FieldType.object "java/lang/Object")), Jvm.Cond.code ({ cls := "org/proofstand/runner/VmMode", name := "word", desc := "()Ljava/lang/String;" } : Jvm.MethodName) prog_100_method_4_code (1 : Nat) (Option.some (Jvm.ClassFile.FieldType.object "java/lang/String"))]
set_option maxRecDepth 65536 in
theorem codes_eq : words1.filter isCode = codes1 := rfl
theorem w_codes : ∀ c ∈ words1.filter isCode, c.before args0 about1 = true := by
  rw [codes_eq]
  intro c hc
  simp only [codes1, List.mem_cons, List.not_mem_nil, or_false] at hc
  rcases hc with rfl | rfl | rfl | rfl | rfl | rfl | rfl | rfl | rfl | rfl | rfl | rfl | rfl | rfl | rfl | rfl | rfl | rfl | rfl | rfl | rfl | rfl | rfl | rfl | rfl | rfl | rfl
  · exact w_c0
  · exact w_c1
  · exact w_c2
  · exact w_c3
  · exact w_c4
  · exact w_c5
  · exact w_c6
  · exact w_c7
  · exact w_c8
  · exact w_c9
  · exact w_c10
  · exact w_c11
  · exact w_c12
  · exact w_c13
  · exact w_c14
  · exact w_c15
  · exact w_c16
  · exact w_c17
  · exact w_c18
  · exact w_c19
  · exact w_c20
  · exact w_c21
  · exact w_c22
  · exact w_c23
  · exact w_c24
  · exact w_c25
  · exact w_c26
set_option maxRecDepth 65536 in
theorem w_t1 : (words1.take 24).all (fun c => isCode c || c.before args0 about1) = true := by decide +kernel
set_option maxRecDepth 65536 in
theorem w_t2 : ((words1.drop 24).take 24).all (fun c => isCode c || c.before args0 about1) = true := by decide +kernel
set_option maxRecDepth 65536 in
theorem w_t3 : (((words1.drop 24).drop 24).take 24).all (fun c => isCode c || c.before args0 about1) = true := by decide +kernel
set_option maxRecDepth 65536 in
theorem w_t4 : ((((words1.drop 24).drop 24).drop 24).take 24).all (fun c => isCode c || c.before args0 about1) = true := by decide +kernel
set_option maxRecDepth 65536 in
theorem w_t5 : (((((words1.drop 24).drop 24).drop 24).drop 24).take 24).all (fun c => isCode c || c.before args0 about1) = true := by decide +kernel
set_option maxRecDepth 65536 in
theorem w_t6 : ((((((words1.drop 24).drop 24).drop 24).drop 24).drop 24).take 24).all (fun c => isCode c || c.before args0 about1) = true := by decide +kernel
set_option maxRecDepth 65536 in
theorem w_t7 : ((((((words1.drop 24).drop 24).drop 24).drop 24).drop 24).drop 24).all (fun c => isCode c || c.before args0 about1) = true := by decide +kernel
theorem w_tables : (allAtoms (Jvm.Cond.code x code maxLocals ret :: tables_1)).before args0 about1 = true := by
  rw [allAtoms_all]
  show words1.all (fun c => c.before args0 about1) = true
  refine all_split ?_ w_codes
  rw [← List.take_append_drop 24 words1, List.all_append, w_t1, ← List.take_append_drop 24 (words1.drop 24), List.all_append, w_t2, ← List.take_append_drop 24 ((words1.drop 24).drop 24), List.all_append, w_t3, ← List.take_append_drop 24 (((words1.drop 24).drop 24).drop 24), List.all_append, w_t4, ← List.take_append_drop 24 ((((words1.drop 24).drop 24).drop 24).drop 24), List.all_append, w_t5, ← List.take_append_drop 24 (((((words1.drop 24).drop 24).drop 24).drop 24).drop 24), List.all_append, w_t6, w_t7]
  rfl
set_option maxRecDepth 65536 in
theorem w_rest : rest_1_c.before args0 about1 = true := by decide +kernel
set_option maxRecDepth 65536 in
theorem w_case : (Jvm.Cond.and given_1 narrow_1).before args0 about1 = true := by decide +kernel
set_option maxRecDepth 65536 in
theorem w_consts : constsHeld consts_1 about1 := Jvm.Lit.constsHeldB_iff.mp (by decide +kernel)
theorem w_applies : (headSpec (Jvm.Cond.code x code maxLocals ret :: tables_1) room_1).applies x e0.platform about1 = true :=
  (Spec.applies_iff w_frames).mpr ⟨w_running, w_runnable, w_alone, w_named, w_hears, w_ripe, w_room, w_tables⟩
theorem atStart : AtStart classFile x code maxLocals ret World_1 tables_1 room_1 Calls_1 rest_1 Pre_1 launch0 p0 e0 about1 theMethod args0 below0 :=
  ⟨lists_1, trivial, launch0.admits_env _ _ _, launch0.least_env, fairChoices_fair.cas, fairChoices_fair.clock, w_frames, w_args, w_heap, w_applies, ⟨w_consts, trivial⟩, w_rest, w_case⟩
end start1
theorem witness_1 : WitnessClaimed_1 := ⟨start1.p0, start1.e0, start1.about1, start1.theMethod, start1.args0, start1.below0, start1.atStart⟩
end Jvm.Pilot.@@N@@
