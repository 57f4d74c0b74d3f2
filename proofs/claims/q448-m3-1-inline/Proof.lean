import JvmDerived
import JvmDerived.Pilot.@@N@@Statement
import JvmDerived.Pilot.@@N@@Code
set_option linter.unusedVariables false
set_option linter.unusedSimpArgs false

/- laws to paste: Road.backV, Road.codOf, Road.lenW, pair_says, shr0, narrow_ch, lo8_mask (cut by pick.py; bodies as the Statement names them) -/
namespace Jvm.Pilot.@@N@@
namespace StrChars
open Jvm Sem ClassFile Op Lib Jvm.Stand Jvm.Free.XT Jvm.Free.ALB Jvm.Free.JM Jvm.Free
open Jvm.Lib.Cold (StaticIs)
/-- a char array whose places are chars -/
def Ch (a : Addr) (A : Cell) (U : State) : Prop := Arr .char a A U ∧ Typed .char A
theorem Ch.mv {a : Addr} {A : Cell} {U U' : State} (h : Ch a A U) (hal : U.vm.Alike U'.vm) (hh : U'.heap = U.heap) : Ch a A U' := ⟨h.1.mv hal hh, h.2⟩
theorem Ch.keep {a : Addr} {A : Cell} {U U' : State} (h : Ch a A U) (hal : U.vm.Alike U'.vm) (hk : U'.heap[a]? = some A) : Ch a A U' := ⟨h.1.keep hal hk, h.2⟩
/-- what place i of a char[]'s cell holds -/
def cv (A : Cell) (i : Nat) : Int32 := match A.slots[i]? with | some (.int x) => x | _ => 0
theorem Ch.get {a : Addr} {A : Cell} {U : State} (h : Ch a A U) {i : Nat} (hi : i < A.slots.size) : A.slots[i]? = some (.int (cv A i)) := by
  have e := Array.getElem?_eq_getElem hi
  have f := h.2 i _ e
  unfold cv; rw [e]
  generalize A.slots[i] = v at f
  cases v <;> simp [fits] at f ⊢
/-- the byte that i2b leaves of a char -/
def lo8 (x : Int32) : Int32 := x.toInt8.toInt32
theorem fits_lo8 (y : Int32) : fits .byte (.int (lo8 y)) = true := by
  have h1 := y.toInt8.le_toInt
  have h2 := y.toInt8.toInt_lt
  simp only [lo8, fits, Bool.and_eq_true, decide_eq_true_eq, Int32.le_iff_toInt_le, Int8.toInt_toInt32, show (-128 : Int32).toInt = -128 from by decide, show (127 : Int32).toInt = 127 from by decide]
  omega
/-- A' is A but that each place j of lo .. hi - 1 holds f j -/
def Laid (A A' : Cell) (lo hi : Nat) (f : Nat → Value) : Prop := A'.cls = A.cls ∧ A'.vm = A.vm ∧ A'.slots.size = A.slots.size ∧ ∀ i, A'.slots[i]? = if lo ≤ i ∧ i < hi then some (f i) else A.slots[i]?
theorem Laid.zero (A : Cell) (lo : Nat) (f : Nat → Value) : Laid A A lo (lo + 0) f := ⟨rfl, rfl, rfl, fun i => by rw [if_neg (by omega)]⟩
theorem Laid.step {A Ak : Cell} {lo k : Nat} {f : Nat → Value} {v : Value} (h : Laid A Ak lo k f) (hlo : lo ≤ k) (hk : k < Ak.slots.size) (hv : v = f k) : Laid A (Ak.setSlot k v) lo (k + 1) f := by
  refine ⟨h.1, h.2.1, by simpa [Cell.setSlot] using h.2.2.1, fun i => ?_⟩
  by_cases e : k = i
  · subst e; rw [Cell.slots_setSlot_self v hk, if_pos (by omega), hv]
  · rw [Cell.slots_setSlot_ne v e, h.2.2.2 i]
    by_cases q : lo ≤ i ∧ i < k
    · rw [if_pos q, if_pos (by omega)]
    · rw [if_neg q, if_neg (by omega)]
def U16 : String := "java/lang/StringUTF16"
namespace Cmp5
def yN : MethodName := ⟨"java/lang/StringUTF16", "compress", "([CI[BII)I"⟩
abbrev yB : ByteArray := jdk_52_method_21_code
theorem d0 : decode yB 0 = .ok (.iconst 0, 1) := by decide +kernel
theorem d1 : decode yB 1 = .ok (.istore 5, 2) := by decide +kernel
theorem d3 : decode yB 3 = .ok (.iload 5, 2) := by decide +kernel
theorem d5 : decode yB 5 = .ok (.iload 4, 2) := by decide +kernel
theorem d7 : decode yB 7 = .ok (.if_icmp (.ge) 37, 3) := by decide +kernel
theorem d10 : decode yB 10 = .ok (.aload_n 0, 1) := by decide +kernel
theorem d11 : decode yB 11 = .ok (.iload_n 1, 1) := by decide +kernel
theorem d12 : decode yB 12 = .ok (.caload, 1) := by decide +kernel
theorem d13 : decode yB 13 = .ok (.istore 6, 2) := by decide +kernel
theorem d15 : decode yB 15 = .ok (.iload 6, 2) := by decide +kernel
theorem d17 : decode yB 17 = .ok (.sipush 255, 3) := by decide +kernel
theorem d20 : decode yB 20 = .ok (.if_icmp (.le) 6, 3) := by decide +kernel
theorem d26 : decode yB 26 = .ok (.aload_n 2, 1) := by decide +kernel
theorem d27 : decode yB 27 = .ok (.iload_n 3, 1) := by decide +kernel
theorem d28 : decode yB 28 = .ok (.iload 6, 2) := by decide +kernel
theorem d30 : decode yB 30 = .ok (.i2b, 1) := by decide +kernel
theorem d31 : decode yB 31 = .ok (.bastore, 1) := by decide +kernel
theorem d32 : decode yB 32 = .ok (.iinc 1 1, 3) := by decide +kernel
theorem d35 : decode yB 35 = .ok (.iinc 3 1, 3) := by decide +kernel
theorem d38 : decode yB 38 = .ok (.iinc 5 1, 3) := by decide +kernel
theorem d41 : decode yB 41 = .ok (.goto (-38), 3) := by decide +kernel
theorem d44 : decode yB 44 = .ok (.iload 4, 2) := by decide +kernel
theorem d46 : decode yB 46 = .ok (.ireturn, 1) := by decide +kernel
def site : List Cond := []
def tab : Cond := tabOf yN yB 7 (some .int) site
def P (b : Addr) (A : Cell) (d : Addr) (B : Cell) (o q len : Nat) (args : Array Value) (s : State) : Prop := args = #[.ref b, .int (Int32.ofNat o), .ref d, .int (Int32.ofNat q), .int (Int32.ofNat len)] ∧ Ch b A s ∧ Arr .byte d B s ∧ b ≠ d ∧ o + len ≤ A.slots.size ∧ q + len ≤ B.slots.size ∧ ∀ i, i < len → ¬ 255 < cv A (o + i)
def E (b : Addr) (A : Cell) (d : Addr) (B : Cell) (o q len : Nat) (r : Option Value) (s u : State) : Prop := r = some (.int (Int32.ofNat len)) ∧ ∃ B', Put d B' s u ∧ Laid B B' q (q + len) (fun j => Value.int (lo8 (cv A (o + (j - q)))))
/-- no char of the range above 255: len; the places written hold each char's low byte -/
theorem law (l : Launch) (b : Addr) (A : Cell) (d : Addr) (B : Cell) (o q len : Nat) : Law l yN 5 5 0 0 yB 7 (some .int) site (P b A d B o q len) (E b A d B o q len) (copyLocs d q len) 0 0 := by
  refine Law.of_walk (plainFor_of_name (by decide +kernel)) (by decide +kernel) (by decide +kernel) (by decide) (fun _ _ h => by rw [h.1]; rfl) (fun _ U U' hal hh h => ⟨h.1, h.2.1.mv hal hh, h.2.2.1.mv hal hh, h.2.2.2⟩) (fun r U U' V V' h1 hal h2 h => ⟨h.1, h.2.elim fun B' q => ⟨B', q.1.mv h1 h2, q.2⟩⟩) ?_
  intro p e s m args below meth c s₁ X0 hexec hbytes hml hret hlk hnm hown hh0 W hP
  obtain ⟨rfl, hA, hB, hne, l1, l2, hp⟩ := hP
  have c1 : Steps p.tables e below (s₁.setTop (entryFrame m #[.ref b, .int (Int32.ofNat o), .ref d, .int (Int32.ofNat q), .int (Int32.ofNat len)] 7)) (s₁.setTop (mkF m 0 #[.val (.ref b), .val (.int (Int32.ofNat o)), .val (.ref d), .val (.int (Int32.ofNat q)), .val (.int (Int32.ofNat len)), .unset, .unset] [])) := entry rfl
  have hA0 := hA.1.mv X0.warmed.alike hh0
  have hB0 := hB.mv X0.warmed.alike hh0
  have a31 := hA.1.2.2.2
  have c2 : Steps p.tables e below (s₁.setTop (entryFrame m #[.ref b, .int (Int32.ofNat o), .ref d, .int (Int32.ofNat q), .int (Int32.ofNat len)] 7)) (s₁.setTop (mkF m 3 #[.val (.ref b), .val (.int (Int32.ofNat o)), .val (.ref d), .val (.int (Int32.ofNat q)), .val (.int (Int32.ofNat len)), .val (.int 0), .unset] [])) := c1.trans (by
    refine iconstV X0.here hexec rfl 0 (hb hbytes d0) (by decide) ?_
    refine XS.istore X0.here hexec rfl (hb hbytes d1) rfl rfl ?_
    exact Steps.refl _)
  have loop : ∀ (r i : Nat), i + r = len → ∀ (z : Slot), (z = .unset ∨ ∃ w, z = .val w ∧ w.category = 1) → ∀ (Tl : State) (Bk : Cell), Stand p l e { frames := 0, locals := 0, cells := 0, slots := 0 } s m #[.ref b, .int (Int32.ofNat o), .ref d, .int (Int32.ofNat q), .int (Int32.ofNat len)] below meth c Tl ([] ++ copyLocs d q i) 0 0 → Put d Bk s₁ Tl → Laid B Bk q (q + i) (fun j => Value.int (lo8 (cv A (o + (j - q))))) →
      Steps p.tables e below (s₁.setTop (entryFrame m #[.ref b, .int (Int32.ofNat o), .ref d, .int (Int32.ofNat q), .int (Int32.ofNat len)] 7)) (Tl.setTop (mkF m 3 #[.val (.ref b), .val (.int (Int32.ofNat (o + i))), .val (.ref d), .val (.int (Int32.ofNat (q + i))), .val (.int (Int32.ofNat len)), .val (.int (Int32.ofNat i)), z] [])) → ∃ (T' : State) (B' : Cell) (z' : Slot), Stand p l e { frames := 0, locals := 0, cells := 0, slots := 0 } s m #[.ref b, .int (Int32.ofNat o), .ref d, .int (Int32.ofNat q), .int (Int32.ofNat len)] below meth c T' ([] ++ copyLocs d q len) 0 0 ∧ Put d B' s₁ T' ∧ Laid B B' q (q + len) (fun j => Value.int (lo8 (cv A (o + (j - q))))) ∧
      Steps p.tables e below (s₁.setTop (entryFrame m #[.ref b, .int (Int32.ofNat o), .ref d, .int (Int32.ofNat q), .int (Int32.ofNat len)] 7)) (T'.setTop (mkF m 3 #[.val (.ref b), .val (.int (Int32.ofNat (o + len))), .val (.ref d), .val (.int (Int32.ofNat (q + len))), .val (.int (Int32.ofNat len)), .val (.int (Int32.ofNat len)), z'] [])) := by
    intro r
    induction r with
    | zero =>
      intro i hi z hz Tl Bk Xl pl fl cl
      have hil : i = len := by omega
      rw [hil] at Xl fl cl
      exact ⟨Tl, Bk, z, Xl, pl, fl, cl⟩
    | succ r ih =>
      intro i hi z hz Tl Bk Xl pl fl cl
      have all := X0.warmed.alike.symm.trans Xl.warmed.alike
      have hAl := hA0.keep all (pl.other hne hA0.1)
      have hBk := hB0.like all pl.1 fl.1 fl.2.1 fl.2.2.1
      have hlt : q + i < Bk.slots.size := by rw [fl.2.2.1]; omega
      have c3 : Steps p.tables e below (s₁.setTop (entryFrame m #[.ref b, .int (Int32.ofNat o), .ref d, .int (Int32.ofNat q), .int (Int32.ofNat len)] 7)) (Tl.setTop (mkF m 12 #[.val (.ref b), .val (.int (Int32.ofNat (o + i))), .val (.ref d), .val (.int (Int32.ofNat (q + i))), .val (.int (Int32.ofNat len)), .val (.int (Int32.ofNat i)), z] [.int (Int32.ofNat (o + i)), .ref b])) := cl.trans (by
        refine XS.iload Xl.here hexec rfl (hb hbytes d3) rfl ?_
        refine XS.iload Xl.here hexec rfl (hb hbytes d5) rfl ?_
        refine XS.icmpNo Xl.here hexec rfl (hb hbytes d7) rfl (ii_ge_f (lt32 (by omega) (by omega))) ?_
        refine XS.aloadN Xl.here hexec rfl (hb hbytes d10) rfl rfl ?_
        refine XS.iloadN Xl.here hexec rfl (hb hbytes d11) rfl ?_
        exact Steps.refl _)
      have c4 : Steps p.tables e below (s₁.setTop (entryFrame m #[.ref b, .int (Int32.ofNat o), .ref d, .int (Int32.ofNat q), .int (Int32.ofNat len)] 7)) (Tl.setTop (mkF m 13 #[.val (.ref b), .val (.int (Int32.ofNat (o + i))), .val (.ref d), .val (.int (Int32.ofNat (q + i))), .val (.int (Int32.ofNat len)), .val (.int (Int32.ofNat i)), z] [.int (cv A (o + i))])) := c3.trans (by
        refine Xl.aget hexec hAl rfl (hA.get (i := o + i) (by omega)) rfl rfl (hb hbytes d12) ?_
        exact Steps.refl _)
      have c5 : Steps p.tables e below (s₁.setTop (entryFrame m #[.ref b, .int (Int32.ofNat o), .ref d, .int (Int32.ofNat q), .int (Int32.ofNat len)] 7)) (Tl.setTop (mkF m 15 #[.val (.ref b), .val (.int (Int32.ofNat (o + i))), .val (.ref d), .val (.int (Int32.ofNat (q + i))), .val (.int (Int32.ofNat len)), .val (.int (Int32.ofNat i)), .val (.int (cv A (o + i)))] [])) := c4.trans (by
        refine XS.istoreS Xl.here hexec rfl (hb hbytes d13) rfl rfl hz ?_
        exact Steps.refl _)
      have c6 : Steps p.tables e below (s₁.setTop (entryFrame m #[.ref b, .int (Int32.ofNat o), .ref d, .int (Int32.ofNat q), .int (Int32.ofNat len)] 7)) (Tl.setTop (mkF m 31 #[.val (.ref b), .val (.int (Int32.ofNat (o + i))), .val (.ref d), .val (.int (Int32.ofNat (q + i))), .val (.int (Int32.ofNat len)), .val (.int (Int32.ofNat i)), .val (.int (cv A (o + i)))] [.int (lo8 (cv A (o + i))), .int (Int32.ofNat (q + i)), .ref d])) := c5.trans (by
        refine XS.iload Xl.here hexec rfl (hb hbytes d15) rfl ?_
        refine sipushV Xl.here hexec rfl 255 (hb hbytes d17) (by decide) ?_
        refine XS.icmpYes Xl.here hexec rfl (pc0 := 20) rfl (hb hbytes d20) rfl (ii_le_t (hp i (by omega))) (by decide) rfl ?_
        refine XS.aloadN Xl.here hexec rfl (hb hbytes d26) rfl rfl ?_
        refine XS.iloadN Xl.here hexec rfl (hb hbytes d27) rfl ?_
        refine XS.iload Xl.here hexec rfl (hb hbytes d28) rfl ?_
        refine i2b Xl.here hexec rfl (hb hbytes d30) rfl ?_
        exact Steps.refl _)
      obtain ⟨T7, X7, p7, st7⟩ := Xl.aput hexec hBk rfl hlt rfl (fits_lo8 (cv A (o + i))) (g := (mkF m 31 #[.val (.ref b), .val (.int (Int32.ofNat (o + i))), .val (.ref d), .val (.int (Int32.ofNat (q + i))), .val (.int (Int32.ofNat len)), .val (.int (Int32.ofNat i)), .val (.int (cv A (o + i)))] [.int (lo8 (cv A (o + i))), .int (Int32.ofNat (q + i)), .ref d])) rfl (rest := []) rfl (hb hbytes d31)
      have c8 : Steps p.tables e below (s₁.setTop (entryFrame m #[.ref b, .int (Int32.ofNat o), .ref d, .int (Int32.ofNat q), .int (Int32.ofNat len)] 7)) (T7.setTop (mkF m 32 #[.val (.ref b), .val (.int (Int32.ofNat (o + i))), .val (.ref d), .val (.int (Int32.ofNat (q + i))), .val (.int (Int32.ofNat len)), .val (.int (Int32.ofNat i)), .val (.int (cv A (o + i)))] [])) := c6.trans (st7 _ (Steps.refl _))
      have c9 : Steps p.tables e below (s₁.setTop (entryFrame m #[.ref b, .int (Int32.ofNat o), .ref d, .int (Int32.ofNat q), .int (Int32.ofNat len)] 7)) (T7.setTop (mkF m 3 #[.val (.ref b), .val (.int (Int32.ofNat (o + i) + 1)), .val (.ref d), .val (.int (Int32.ofNat (q + i) + 1)), .val (.int (Int32.ofNat len)), .val (.int (Int32.ofNat i + 1)), .val (.int (cv A (o + i)))] [])) := c8.trans (by
        refine iincV X7.here hexec rfl 1 (hb hbytes d32) (by decide) rfl rfl ?_
        refine iincV X7.here hexec rfl 1 (hb hbytes d35) (by decide) rfl rfl ?_
        refine iincV X7.here hexec rfl 1 (hb hbytes d38) (by decide) rfl rfl ?_
        refine XS.goto X7.here hexec rfl (pc0 := 41) rfl (hb hbytes d41) (by decide) rfl ?_
        exact Steps.refl _)
      have c10 : Steps p.tables e below (s₁.setTop (entryFrame m #[.ref b, .int (Int32.ofNat o), .ref d, .int (Int32.ofNat q), .int (Int32.ofNat len)] 7)) (T7.setTop (mkF m 3 #[.val (.ref b), .val (.int (Int32.ofNat (o + (i + 1)))), .val (.ref d), .val (.int (Int32.ofNat (q + (i + 1)))), .val (.int (Int32.ofNat len)), .val (.int (Int32.ofNat (i + 1))), .val (.int (cv A (o + i)))] [])) := by
        have := c9
        rw [succ32, succ32, succ32] at this
        exact this
      exact ih (i + 1) (by omega) _ (Or.inr ⟨_, rfl, rfl⟩) T7 _ (by rw [copyLocs_step, ← List.append_assoc]; exact X7) (pl.trans p7) (fl.step (by omega) hlt (by simp)) c10
  obtain ⟨T9, B9, z9, X9, p9, f9, g9⟩ := loop len 0 (by omega) .unset (Or.inl rfl) s₁ B (by simpa [copyLocs] using X0) ⟨hB0.1, fun _ _ => rfl, rfl⟩ (Laid.zero _ _ _) c2
  have c11 : Steps p.tables e below (s₁.setTop (entryFrame m #[.ref b, .int (Int32.ofNat o), .ref d, .int (Int32.ofNat q), .int (Int32.ofNat len)] 7)) (T9.setTop (mkF m 46 #[.val (.ref b), .val (.int (Int32.ofNat (o + len))), .val (.ref d), .val (.int (Int32.ofNat (q + len))), .val (.int (Int32.ofNat len)), .val (.int (Int32.ofNat len)), z9] [.int (Int32.ofNat len)])) := g9.trans (by
    refine XS.iload X9.here hexec rfl (hb hbytes d3) rfl ?_
    refine XS.iload X9.here hexec rfl (hb hbytes d5) rfl ?_
    refine XS.icmpYes X9.here hexec rfl (pc0 := 7) rfl (hb hbytes d7) rfl (ii_ge_t (nlt32 (by omega) (Nat.le_refl _))) (by decide) rfl ?_
    refine XS.iload X9.here hexec rfl (hb hbytes d44) rfl ?_
    exact Steps.refl _)
  exact ⟨T9, some (.int (Int32.ofNat len)), _, _, _, X9, by simp, rfl, rfl, (fun h => by cases h), ⟨rfl, B9, p9.from hh0, f9⟩, fun fs hl => c11.trans (X9.ireturnOut hexec hret rfl (Or.inl rfl) (hb hbytes d46) hl)⟩
end Cmp5
namespace Cmp3
def yN : MethodName := ⟨"java/lang/StringUTF16", "compress", "([CII)[B"⟩
abbrev yB : ByteArray := jdk_52_method_16_code
theorem d0 : decode yB 0 = .ok (.iload_n 2, 1) := by decide +kernel
theorem d1 : decode yB 1 = .ok (.newarray .byte, 2) := by decide +kernel
theorem d3 : decode yB 3 = .ok (.astore_n 3, 1) := by decide +kernel
theorem d4 : decode yB 4 = .ok (.aload_n 0, 1) := by decide +kernel
theorem d5 : decode yB 5 = .ok (.iload_n 1, 1) := by decide +kernel
theorem d6 : decode yB 6 = .ok (.aload_n 3, 1) := by decide +kernel
theorem d7 : decode yB 7 = .ok (.iconst 0, 1) := by decide +kernel
theorem d8 : decode yB 8 = .ok (.iload_n 2, 1) := by decide +kernel
theorem d9 : decode yB 9 = .ok (.invokestatic 115, 3) := by decide +kernel
theorem d12 : decode yB 12 = .ok (.istore 4, 2) := by decide +kernel
theorem d14 : decode yB 14 = .ok (.iload 4, 2) := by decide +kernel
theorem d16 : decode yB 16 = .ok (.iload_n 2, 1) := by decide +kernel
theorem d17 : decode yB 17 = .ok (.if_icmp (.eq) 40, 3) := by decide +kernel
theorem d57 : decode yB 57 = .ok (.aload_n 3, 1) := by decide +kernel
theorem d58 : decode yB 58 = .ok (.areturn, 1) := by decide +kernel
def site : List Cond := [.arrayClass .byte, Cmp5.tab] ++ staticW U16 115 Cmp5.yN
def tab : Cond := tabOf yN yB 6 (some (.array .byte)) site
def P (b : Addr) (A : Cell) (o len : Nat) (args : Array Value) (s : State) : Prop := args = #[.ref b, .int (Int32.ofNat o), .int (Int32.ofNat len)] ∧ Ch b A s ∧ o + len ≤ A.slots.size ∧ len ≤ 536870912 ∧ ∀ i, i < len → ¬ 255 < cv A (o + i)
def E (b : Addr) (A : Cell) (o len : Nat) (r : Option Value) (s u : State) : Prop := NewArr .byte "[B" len (fun j => .int (lo8 (cv A (o + j)))) r s u ∧ u.heap.size = s.heap.size + 1
/-- no char of the range above 255: a new byte[] of their low bytes -/
theorem law (l : Launch) (b : Addr) (A : Cell) (o len : Nat) : Law l yN 3 3 1 18 yB 6 (some (.array .byte)) site (P b A o len) (E b A o len) [] 1 len := by
  refine Law.of_walk (plainFor_of_name (by decide +kernel)) (by decide +kernel) (by decide +kernel) (by decide) (fun _ _ h => by rw [h.1]; rfl) (fun _ U U' hal hh h => ⟨h.1, h.2.1.mv hal hh, h.2.2⟩) (fun r U U' V V' h1 hal h2 h => ⟨NewArr.mv r U U' V V' h1 hal h2 h.1, by rw [h1, h2]; exact h.2⟩) ?_
  intro p e s m args below meth c s₁ X0 hexec hbytes hml hret hlk hnm hown hh0 W hP
  obtain ⟨rfl, hA, l1, l2, hp⟩ := hP
  have a31 := hA.1.2.2.2
  have c1 : Steps p.tables e below (s₁.setTop (entryFrame m #[.ref b, .int (Int32.ofNat o), .int (Int32.ofNat len)] 6)) (s₁.setTop (mkF m 0 #[.val (.ref b), .val (.int (Int32.ofNat o)), .val (.int (Int32.ofNat len)), .unset, .unset, .unset] [])) := entry rfl
  have c2 : Steps p.tables e below (s₁.setTop (entryFrame m #[.ref b, .int (Int32.ofNat o), .int (Int32.ofNat len)] 6)) (s₁.setTop (mkF m 1 #[.val (.ref b), .val (.int (Int32.ofNat o)), .val (.int (Int32.ofNat len)), .unset, .unset, .unset] [.int (Int32.ofNat len)])) := c1.trans (by
    refine XS.iloadN X0.here hexec rfl (hb hbytes d0) rfl ?_
    exact Steps.refl _)
  obtain ⟨T3, B3, X3, ba3, bs3, bv3, bh3, bf3, st3⟩ := X0.anew hexec (atype := .byte) (wk W (.arrayClass .byte)) rfl (by show len * 1 ≤ _; omega) (by omega) (g := (mkF m 1 #[.val (.ref b), .val (.int (Int32.ofNat o)), .val (.int (Int32.ofNat len)), .unset, .unset, .unset] [.int (Int32.ofNat len)])) rfl (hb hbytes d1) (rest := []) rfl (Nat.le_refl _) (by show 0 + len ≤ len; omega)
  rw [hh0] at ba3 st3
  have kp3 : XT.Kept s T3 := (XT.Kept.of_eq hh0).push bh3
  have hA3 := hA.keep X3.warmed.alike (kp3 _ _ hA.1.1)
  have hne : b ≠ s.heap.size := hA.1.ne
  have c4 : Steps p.tables e below (s₁.setTop (entryFrame m #[.ref b, .int (Int32.ofNat o), .int (Int32.ofNat len)] 6)) (T3.setTop (mkF m 3 #[.val (.ref b), .val (.int (Int32.ofNat o)), .val (.int (Int32.ofNat len)), .unset, .unset, .unset] [.ref s.heap.size])) := c2.trans (st3 _ (Steps.refl _))
  have c5 : Steps p.tables e below (s₁.setTop (entryFrame m #[.ref b, .int (Int32.ofNat o), .int (Int32.ofNat len)] 6)) (T3.setTop (mkF m 9 #[.val (.ref b), .val (.int (Int32.ofNat o)), .val (.int (Int32.ofNat len)), .val (.ref s.heap.size), .unset, .unset] [.int (Int32.ofNat len), .int 0, .ref s.heap.size, .int (Int32.ofNat o), .ref b])) := c4.trans (by
    refine XS.astoreN X3.here hexec rfl (hb hbytes d3) rfl rfl rfl ?_
    refine XS.aloadN X3.here hexec rfl (hb hbytes d4) rfl rfl ?_
    refine XS.iloadN X3.here hexec rfl (hb hbytes d5) rfl ?_
    refine XS.aloadN X3.here hexec rfl (hb hbytes d6) rfl rfl ?_
    refine iconstV X3.here hexec rfl 0 (hb hbytes d7) (by decide) ?_
    refine XS.iloadN X3.here hexec rfl (hb hbytes d8) rfl ?_
    exact Steps.refl _)
  obtain ⟨v6, T6, X6, E6, g6⟩ := X3.callS hexec (Cmp5.law l b A s.heap.size B3 o 0 len) hown (wks W (staticW U16 115 Cmp5.yN)) (wk W Cmp5.tab) (W := 0) (Nat.le_of_ble_eq_true rfl) (Nat.le_of_ble_eq_true rfl) (Nat.le_refl _) (by show 0 + len + 0 ≤ len; omega) (g := (mkF m 9 #[.val (.ref b), .val (.int (Int32.ofNat o)), .val (.int (Int32.ofNat len)), .val (.ref s.heap.size), .unset, .unset] [.int (Int32.ofNat len), .int (Int32.ofNat 0), .ref s.heap.size, .int (Int32.ofNat o), .ref b])) rfl (by rw [hml]; rfl) c5 (argsL := [.ref b, .int (Int32.ofNat o), .ref s.heap.size, .int (Int32.ofNat 0), .int (Int32.ofNat len)]) (rest := []) rfl rfl (by show 2 * 0 + 0 ≤ _; decide) (hb hbytes d9) (⟨rfl, hA3, ba3, hne, l1, by rw [bs3]; simp, hp⟩)
  obtain ⟨rfl, B6, p6, f6⟩ := E6
  have c7 : Steps p.tables e below (s₁.setTop (entryFrame m #[.ref b, .int (Int32.ofNat o), .int (Int32.ofNat len)] 6)) (T6.setTop (mkF m 12 #[.val (.ref b), .val (.int (Int32.ofNat o)), .val (.int (Int32.ofNat len)), .val (.ref s.heap.size), .unset, .unset] [.int (Int32.ofNat len)])) := g6
  have c8 : Steps p.tables e below (s₁.setTop (entryFrame m #[.ref b, .int (Int32.ofNat o), .int (Int32.ofNat len)] 6)) (T6.setTop (mkF m 58 #[.val (.ref b), .val (.int (Int32.ofNat o)), .val (.int (Int32.ofNat len)), .val (.ref s.heap.size), .val (.int (Int32.ofNat len)), .unset] [.ref s.heap.size])) := c7.trans (by
    refine XS.istore X6.here hexec rfl (hb hbytes d12) rfl rfl ?_
    refine XS.iload X6.here hexec rfl (hb hbytes d14) rfl ?_
    refine XS.iloadN X6.here hexec rfl (hb hbytes d16) rfl ?_
    refine XS.icmpYes X6.here hexec rfl (pc0 := 17) rfl (hb hbytes d17) rfl (ii_eq_t rfl) (by decide) rfl ?_
    refine XS.aloadN X6.here hexec rfl (hb hbytes d57) rfl rfl ?_
    exact Steps.refl _)
  have X8 := X6.wide (L' := []) (cells' := 1) (slots' := len) (fun x hx hlt => by
    simp only [List.nil_append, copyLocs, List.mem_map, List.mem_range] at hx
    obtain ⟨i, -, rfl⟩ := hx
    exact absurd hlt (Nat.lt_irrefl _)) (Nat.le_refl _) (by omega)
  exact ⟨T6, some (.ref s.heap.size), _, _, _, X8, rfl, rfl, rfl, (fun h => by cases h), ⟨⟨rfl, B6, ba3.like (X3.warmed.alike.symm.trans X6.warmed.alike) p6.1 f6.1 f6.2.1 f6.2.2.1, f6.2.1.trans bv3, by rw [X6.warmed.alike.findClass, f6.1]; exact bf3, by rw [f6.2.2.1, bs3]; simp, fun j hj => by rw [f6.2.2.2 j, if_pos (by omega)]; rfl, kp3.put p6 (Nat.le_refl _)⟩, by rw [p6.2.2, bh3, hh0]; simp⟩, fun fs hl => c8.trans (X8.areturnOut hexec rfl hret rfl (hb hbytes d58) hl)⟩
end Cmp3
namespace CodL
def yN : MethodName := ⟨"java/lang/StringUTF16", "coderFromArrayLen", "([BI)B"⟩
abbrev yB : ByteArray := jdk_52_method_15_code
theorem d0 : decode yB 0 = .ok (.iload_n 1, 1) := by decide +kernel
theorem d1 : decode yB 1 = .ok (.aload_n 0, 1) := by decide +kernel
theorem d2 : decode yB 2 = .ok (.arraylength, 1) := by decide +kernel
theorem d3 : decode yB 3 = .ok (.isub, 1) := by decide +kernel
theorem d4 : decode yB 4 = .ok (.bipush 31, 2) := by decide +kernel
theorem d6 : decode yB 6 = .ok (.iushr, 1) := by decide +kernel
theorem d7 : decode yB 7 = .ok (.i2b, 1) := by decide +kernel
theorem d8 : decode yB 8 = .ok (.ireturn, 1) := by decide +kernel
def site : List Cond := []
def tab : Cond := tabOf yN yB 2 (some .byte) site
def P (d : Addr) (B : Cell) (args : Array Value) (s : State) : Prop := args = #[.ref d, .int (Int32.ofNat B.slots.size)] ∧ Arr .byte d B s
def E (r : Option Value) (s u : State) : Prop := XT.PureE (some (.int 0)) r s u
/-- an array as long as the number of chars: LATIN1 -/
theorem law (l : Launch) (d : Addr) (B : Cell) : Law l yN 2 2 0 0 yB 2 (some .byte) site (P d B) E [] 0 0 := by
  refine Law.of_walk (plainFor_of_name (by decide +kernel)) (by decide +kernel) (by decide +kernel) (by decide) (fun _ _ h => by rw [h.1]; rfl) (fun _ U U' hal hh h => ⟨h.1, h.2.mv hal hh⟩) (fun r U U' V V' h1 hal h2 h => XT.PureE.mv r U U' V V' h1 hal h2 h) ?_
  intro p e s m args below meth c s₁ X0 hexec hbytes hml hret hlk hnm hown hh0 W hP
  obtain ⟨rfl, hB⟩ := hP
  have hB0 := hB.mv X0.warmed.alike hh0
  have c1 : Steps p.tables e below (s₁.setTop (entryFrame m #[.ref d, .int (Int32.ofNat B.slots.size)] 2)) (s₁.setTop (mkF m 0 #[.val (.ref d), .val (.int (Int32.ofNat B.slots.size))] [])) := entry rfl
  have c2 : Steps p.tables e below (s₁.setTop (entryFrame m #[.ref d, .int (Int32.ofNat B.slots.size)] 2)) (s₁.setTop (mkF m 2 #[.val (.ref d), .val (.int (Int32.ofNat B.slots.size))] [.ref d, .int (Int32.ofNat B.slots.size)])) := c1.trans (by
    refine XS.iloadN X0.here hexec rfl (hb hbytes d0) rfl ?_
    refine XS.aloadN X0.here hexec rfl (hb hbytes d1) rfl rfl ?_
    exact Steps.refl _)
  have c3 : Steps p.tables e below (s₁.setTop (entryFrame m #[.ref d, .int (Int32.ofNat B.slots.size)] 2)) (s₁.setTop (mkF m 8 #[.val (.ref d), .val (.int (Int32.ofNat B.slots.size))] [.int (lo8 (ushr (Int32.ofNat B.slots.size - Int32.ofNat B.slots.size) 31))])) := c2.trans (by
    refine X0.alen hexec hB0 rfl rfl (hb hbytes d2) ?_
    refine XS.isub X0.here hexec rfl (hb hbytes d3) rfl ?_
    refine bipushV X0.here hexec rfl 31 (hb hbytes d4) (by decide) ?_
    refine iushr X0.here hexec rfl (hb hbytes d6) rfl ?_
    refine i2b X0.here hexec rfl (hb hbytes d7) rfl ?_
    exact Steps.refl _)
  have e0 : lo8 (ushr (Int32.ofNat B.slots.size - Int32.ofNat B.slots.size) 31) = 0 := by rw [Int32.sub_self]; decide
  rw [e0] at c3
  exact ⟨s₁, some (.int 0), _, _, _, X0, rfl, rfl, rfl, (fun h => by cases h), ⟨rfl, hh0⟩, fun fs hl => c3.trans (X0.ireturnOut hexec hret rfl (Or.inr (Or.inr (Or.inl rfl))) (hb hbytes d8) hl)⟩
end CodL
/-- the String at a is Latin-1 over a new byte[] (the heap's one new cell): the low bytes of the len chars of A from o on; every cell but a is kept -/
def Got (a : Addr) (D : Cell) (fV fC : Field) (A : Cell) (o len : Nat) (r : Option Value) (s u : State) : Prop := r = none ∧ ∃ D' V : Cell, Blank "java/lang/String" a D' u ∧ Same D D' [fV.slot, fC.slot] ∧ D'.slots[fV.slot]? = some (.ref s.heap.size) ∧ D'.slots[fC.slot]? = some (.int 0) ∧ Arr .byte s.heap.size V u ∧ V.vm = .none ∧ u.vm.findClass "[B" = some V.cls ∧ V.slots.size = len ∧ (∀ j, j < len → V.slots[j]? = some (.int (lo8 (cv A (o + j))))) ∧ (∀ (y : Addr) (c : Cell), y ≠ a → s.heap[y]? = some c → u.heap[y]? = some c) ∧ u.heap.size = s.heap.size + 1
theorem Got.mv {a : Addr} {D A : Cell} {fV fC : Field} {o len : Nat} : ∀ r (U U' V V' : State), U'.heap = U.heap → V.vm.Alike V'.vm → V'.heap = V.heap → Got a D fV fC A o len r U V → Got a D fV fC A o len r U' V' :=
  fun r U U' V V' h1 hal h2 ⟨e0, D', X, a1, a2, a3, a4, a5, a6, a7, a8, a9, a10, a11⟩ => ⟨e0, D', X, a1.mv hal h2, a2, by rw [h1]; exact a3, a4, by rw [h1]; exact a5.mv hal h2, a6, by rw [hal.findClass]; exact a7, a8, a9, by rw [h1, h2]; exact a10, by rw [h1, h2]; exact a11⟩
namespace New4
def yN : MethodName := ⟨"java/lang/String", "<init>", "([CIILjava/lang/Void;)V"⟩
abbrev yB : ByteArray := jdk_42_method_149_code
theorem d0 : decode yB 0 = .ok (.aload_n 0, 1) := by decide +kernel
theorem d1 : decode yB 1 = .ok (.invokespecial 1, 3) := by decide +kernel
theorem d4 : decode yB 4 = .ok (.iload_n 3, 1) := by decide +kernel
theorem d5 : decode yB 5 = .ok (.ifCond (.ne) 22, 3) := by decide +kernel
theorem d27 : decode yB 27 = .ok (.getstatic 38, 3) := by decide +kernel
theorem d30 : decode yB 30 = .ok (.ifCond (.eq) 28, 3) := by decide +kernel
theorem d33 : decode yB 33 = .ok (.aload_n 1, 1) := by decide +kernel
theorem d34 : decode yB 34 = .ok (.iload_n 2, 1) := by decide +kernel
theorem d35 : decode yB 35 = .ok (.iload_n 3, 1) := by decide +kernel
theorem d36 : decode yB 36 = .ok (.invokestatic 177, 3) := by decide +kernel
theorem d39 : decode yB 39 = .ok (.astore 5, 2) := by decide +kernel
theorem d41 : decode yB 41 = .ok (.aload_n 0, 1) := by decide +kernel
theorem d42 : decode yB 42 = .ok (.aload 5, 2) := by decide +kernel
theorem d44 : decode yB 44 = .ok (.iload_n 3, 1) := by decide +kernel
theorem d45 : decode yB 45 = .ok (.invokestatic 47, 3) := by decide +kernel
theorem d48 : decode yB 48 = .ok (.putfield 15, 3) := by decide +kernel
theorem d51 : decode yB 51 = .ok (.aload_n 0, 1) := by decide +kernel
theorem d52 : decode yB 52 = .ok (.aload 5, 2) := by decide +kernel
theorem d54 : decode yB 54 = .ok (.putfield 9, 3) := by decide +kernel
theorem d57 : decode yB 57 = .ok (.return_, 1) := by decide +kernel
def site : List Cond := [.fieldLink "java/lang/String" 38 "java/lang/String" "COMPACT_STRINGS" "Z", Cmp3.tab, CodL.tab, .laysFinal "java/lang/String" "java/lang/String" "value" "[B", .fieldLink "java/lang/String" 9 "java/lang/String" "value" "[B", .laysFinal "java/lang/String" "java/lang/String" "coder" "B", .fieldLink "java/lang/String" 15 "java/lang/String" "coder" "B"] ++ objW "java/lang/String" 1 ++ staticW "java/lang/String" 177 Cmp3.yN ++ staticW "java/lang/String" 47 CodL.yN
def tab : Cond := tabOf yN yB 6 none site
def P (a : Addr) (D : Cell) (fV fC : Field) (b : Addr) (A : Cell) (z : Int32) (o len : Nat) (args : Array Value) (s : State) : Prop := args = #[.ref a, .ref b, .int (Int32.ofNat o), .int (Int32.ofNat len), .null] ∧ Blank "java/lang/String" a D s ∧ Found "java/lang/String" "value" "[B" fV s ∧ Found "java/lang/String" "coder" "B" fC s ∧ Ch b A s ∧ StaticIs s "java/lang/String" "COMPACT_STRINGS" "Z" (.int z) ∧ ¬ z = 0 ∧ 0 < len ∧ o + len ≤ A.slots.size ∧ len ≤ 536870912 ∧ ∀ i, i < len → ¬ 255 < cv A (o + i)
def E (a : Addr) (D : Cell) (fV fC : Field) (A : Cell) (o len : Nat) (r : Option Value) (s u : State) : Prop := Got a D fV fC A o len r s u
/-- len > 0, no char of the range above 255: a Latin-1 String of their low bytes -/
theorem law (l : Launch) (a : Addr) (D : Cell) (fV fC : Field) (b : Addr) (A : Cell) (z : Int32) (o len : Nat) : Law l yN 5 4 2 35 yB 6 none site (P a D fV fC b A z o len) (E a D fV fC A o len) [⟨a, fC.slot⟩, ⟨a, fV.slot⟩] 1 len := by
  refine Law.of_walk (plainFor_of_name (by decide +kernel)) (by decide +kernel) (by decide +kernel) (by decide) (fun _ _ h => by rw [h.1]; rfl) (fun _ U U' hal hh h => ⟨h.1, h.2.1.mv hal hh, h.2.2.1.al hal, h.2.2.2.1.al hal, h.2.2.2.2.1.mv hal hh, h.2.2.2.2.2.1.there hal hh, h.2.2.2.2.2.2⟩) (fun r U U' V V' h1 hal h2 h => Got.mv r U U' V V' h1 hal h2 h) ?_
  intro p e s m args below meth c s₁ X0 hexec hbytes hml hret hlk hnm hown hh0 W hP
  obtain ⟨rfl, hB, f1, f2, hA, s1, hz, l0, l1, l2, hp⟩ := hP
  have a31 := hA.1.2.2.2
  have c1 : Steps p.tables e below (s₁.setTop (entryFrame m #[.ref a, .ref b, .int (Int32.ofNat o), .int (Int32.ofNat len), .null] 6)) (s₁.setTop (mkF m 0 #[.val (.ref a), .val (.ref b), .val (.int (Int32.ofNat o)), .val (.int (Int32.ofNat len)), .val .null, .unset] [])) := entry rfl
  have c2 : Steps p.tables e below (s₁.setTop (entryFrame m #[.ref a, .ref b, .int (Int32.ofNat o), .int (Int32.ofNat len), .null] 6)) (s₁.setTop (mkF m 1 #[.val (.ref a), .val (.ref b), .val (.int (Int32.ofNat o)), .val (.int (Int32.ofNat len)), .val .null, .unset] [.ref a])) := c1.trans (by
    refine XS.aloadN X0.here hexec rfl (hb hbytes d0) rfl rfl ?_
    exact Steps.refl _)
  obtain ⟨T3, X3, q3, st3⟩ := X0.oinit hexec hown (wks W (objW "java/lang/String" 1)) (g := (mkF m 1 #[.val (.ref a), .val (.ref b), .val (.int (Int32.ofNat o)), .val (.int (Int32.ofNat len)), .val .null, .unset] [.ref a])) rfl (by rw [hml]; rfl) (rest := []) rfl (hb hbytes d1) (W := 0) (by show 2 * 0 + 0 ≤ _; decide) (Nat.le_of_ble_eq_true rfl) (Nat.le_of_ble_eq_true rfl)
  have hh3 := q3.trans hh0
  have c4 : Steps p.tables e below (s₁.setTop (entryFrame m #[.ref a, .ref b, .int (Int32.ofNat o), .int (Int32.ofNat len), .null] 6)) (T3.setTop (mkF m 27 #[.val (.ref a), .val (.ref b), .val (.int (Int32.ofNat o)), .val (.int (Int32.ofNat len)), .val .null, .unset] [])) := (c2.trans (st3 _ (Steps.refl _))).trans (by
    refine XS.iloadN X3.here hexec rfl (hb hbytes d4) rfl ?_
    refine XS.ifYes X3.here hexec rfl (pc0 := 5) rfl (hb hbytes d5) rfl (i0_ne_t (nz32 (by omega) l0)) (by decide) rfl ?_
    exact Steps.refl _)
  obtain ⟨T5, X5, q5, st5⟩ := X3.sget hexec hown (wk W (.fieldLink "java/lang/String" 38 "java/lang/String" "COMPACT_STRINGS" "Z")) s1 (fun _ _ h => by rw [hh3]; exact h) (g := (mkF m 27 #[.val (.ref a), .val (.ref b), .val (.int (Int32.ofNat o)), .val (.int (Int32.ofNat len)), .val .null, .unset] [])) rfl (hb hbytes d27)
  have hh5 := q5.trans hh3
  have c6 : Steps p.tables e below (s₁.setTop (entryFrame m #[.ref a, .ref b, .int (Int32.ofNat o), .int (Int32.ofNat len), .null] 6)) (T5.setTop (mkF m 30 #[.val (.ref a), .val (.ref b), .val (.int (Int32.ofNat o)), .val (.int (Int32.ofNat len)), .val .null, .unset] [.int z])) := c4.trans (st5 _ (Steps.refl _))
  have c7 : Steps p.tables e below (s₁.setTop (entryFrame m #[.ref a, .ref b, .int (Int32.ofNat o), .int (Int32.ofNat len), .null] 6)) (T5.setTop (mkF m 36 #[.val (.ref a), .val (.ref b), .val (.int (Int32.ofNat o)), .val (.int (Int32.ofNat len)), .val .null, .unset] [.int (Int32.ofNat len), .int (Int32.ofNat o), .ref b])) := c6.trans (by
    refine XS.ifNo X5.here hexec rfl (hb hbytes d30) rfl (i0_eq_f hz) ?_
    refine XS.aloadN X5.here hexec rfl (hb hbytes d33) rfl rfl ?_
    refine XS.iloadN X5.here hexec rfl (hb hbytes d34) rfl ?_
    refine XS.iloadN X5.here hexec rfl (hb hbytes d35) rfl ?_
    exact Steps.refl _)
  obtain ⟨v8, T8, X8, E8, g8⟩ := X5.callS hexec (Cmp3.law l b A o len) hown (wks W (staticW "java/lang/String" 177 Cmp3.yN)) (wk W Cmp3.tab) (W := 0) (Nat.le_of_ble_eq_true rfl) (Nat.le_of_ble_eq_true rfl) (Nat.le_refl _) (by show 0 + len ≤ len; omega) (g := (mkF m 36 #[.val (.ref a), .val (.ref b), .val (.int (Int32.ofNat o)), .val (.int (Int32.ofNat len)), .val .null, .unset] [.int (Int32.ofNat len), .int (Int32.ofNat o), .ref b])) rfl (by rw [hml]; rfl) c7 (argsL := [.ref b, .int (Int32.ofNat o), .int (Int32.ofNat len)]) (rest := []) rfl rfl (by show 2 * 0 + 0 ≤ _; decide) (hb hbytes d36) (⟨rfl, hA.mv X5.warmed.alike hh5, l1, l2, hp⟩)
  obtain ⟨e8, z8⟩ := E8
  obtain ⟨rfl, N, n1, n2, n3, n4, n5, n6⟩ := NewArr.mv _ T5 s _ _ hh5.symm (Vm.Alike.refl _) rfl e8
  rw [hh5] at z8
  have hB1 := hB.keep X8.warmed.alike (n6 _ _ hB.1)
  have hne : s.heap.size ≠ a := (Nat.ne_of_lt (Array.getElem?_eq_some_iff.mp hB.1).1).symm
  have c9 : Steps p.tables e below (s₁.setTop (entryFrame m #[.ref a, .ref b, .int (Int32.ofNat o), .int (Int32.ofNat len), .null] 6)) (T8.setTop (mkF m 39 #[.val (.ref a), .val (.ref b), .val (.int (Int32.ofNat o)), .val (.int (Int32.ofNat len)), .val .null, .unset] [.ref s.heap.size])) := g8
  have c10 : Steps p.tables e below (s₁.setTop (entryFrame m #[.ref a, .ref b, .int (Int32.ofNat o), .int (Int32.ofNat len), .null] 6)) (T8.setTop (mkF m 45 #[.val (.ref a), .val (.ref b), .val (.int (Int32.ofNat o)), .val (.int (Int32.ofNat len)), .val .null, .val (.ref s.heap.size)] [.int (Int32.ofNat N.slots.size), .ref s.heap.size, .ref a])) := by
    have hc : Steps p.tables e below (s₁.setTop (entryFrame m #[.ref a, .ref b, .int (Int32.ofNat o), .int (Int32.ofNat len), .null] 6)) (T8.setTop (mkF m 45 #[.val (.ref a), .val (.ref b), .val (.int (Int32.ofNat o)), .val (.int (Int32.ofNat len)), .val .null, .val (.ref s.heap.size)] [.int (Int32.ofNat len), .ref s.heap.size, .ref a])) := c9.trans (by
      refine XS.astore X8.here hexec rfl (hb hbytes d39) rfl rfl rfl ?_
      refine XS.aloadN X8.here hexec rfl (hb hbytes d41) rfl rfl ?_
      refine XS.aload X8.here hexec rfl (hb hbytes d42) rfl rfl ?_
      refine XS.iloadN X8.here hexec rfl (hb hbytes d44) rfl ?_
      exact Steps.refl _)
    rw [n4]; exact hc
  obtain ⟨v11, T11, X11, E11, g11⟩ := X8.callS hexec (CodL.law l s.heap.size N) hown (wks W (staticW "java/lang/String" 47 CodL.yN)) (wk W CodL.tab) (W := 1) (Nat.le_of_ble_eq_true rfl) (Nat.le_of_ble_eq_true rfl) (Nat.le_refl _) (by show 0 + len + 0 ≤ len; omega) (g := (mkF m 45 #[.val (.ref a), .val (.ref b), .val (.int (Int32.ofNat o)), .val (.int (Int32.ofNat len)), .val .null, .val (.ref s.heap.size)] [.int (Int32.ofNat N.slots.size), .ref s.heap.size, .ref a])) rfl (by rw [hml]; rfl) c10 (argsL := [.ref s.heap.size, .int (Int32.ofNat N.slots.size)]) (rest := [.ref a]) rfl rfl (by show 2 * 0 + (1 + 0) ≤ _; decide) (hb hbytes d45) (⟨rfl, n1⟩)
  obtain ⟨rfl, q11⟩ := E11
  have hB11 := hB1.mv (X8.warmed.alike.symm.trans X11.warmed.alike) q11
  have c12 : Steps p.tables e below (s₁.setTop (entryFrame m #[.ref a, .ref b, .int (Int32.ofNat o), .int (Int32.ofNat len), .null] 6)) (T11.setTop (mkF m 48 #[.val (.ref a), .val (.ref b), .val (.int (Int32.ofNat o)), .val (.int (Int32.ofNat len)), .val .null, .val (.ref s.heap.size)] [.int 0, .ref a])) := g11
  obtain ⟨T13, X13, p13, bl13, sl13, st13⟩ := X11.finit hexec hown (wk W (.fieldLink "java/lang/String" 15 "java/lang/String" "coder" "B")) (Or.inr ⟨_, (wk W (.laysFinal "java/lang/String" "java/lang/String" "coder" "B"))⟩) (Or.inl ⟨rfl, hnm⟩) f2 (Or.inl rfl) hB11 (t := .byte) (by decide +kernel) rfl (g := (mkF m 48 #[.val (.ref a), .val (.ref b), .val (.int (Int32.ofNat o)), .val (.int (Int32.ofNat len)), .val .null, .val (.ref s.heap.size)] [.int 0, .ref a])) rfl (rest := []) rfl (hb hbytes d48)
  have c14 : Steps p.tables e below (s₁.setTop (entryFrame m #[.ref a, .ref b, .int (Int32.ofNat o), .int (Int32.ofNat len), .null] 6)) (T13.setTop (mkF m 54 #[.val (.ref a), .val (.ref b), .val (.int (Int32.ofNat o)), .val (.int (Int32.ofNat len)), .val .null, .val (.ref s.heap.size)] [.ref s.heap.size, .ref a])) := (c12.trans (st13 _ (Steps.refl _))).trans (by
    refine XS.aloadN X13.here hexec rfl (hb hbytes d51) rfl rfl ?_
    refine XS.aload X13.here hexec rfl (hb hbytes d52) rfl rfl ?_
    exact Steps.refl _)
  obtain ⟨T15, X15, p15, bl15, sl15, st15⟩ := X13.finit hexec hown (wk W (.fieldLink "java/lang/String" 9 "java/lang/String" "value" "[B")) (Or.inr ⟨_, (wk W (.laysFinal "java/lang/String" "java/lang/String" "value" "[B"))⟩) (Or.inl ⟨rfl, hnm⟩) f1 (Or.inl rfl) bl13 (t := (.array .byte)) (by decide +kernel) rfl (g := (mkF m 54 #[.val (.ref a), .val (.ref b), .val (.int (Int32.ofNat o)), .val (.int (Int32.ofNat len)), .val .null, .val (.ref s.heap.size)] [.ref s.heap.size, .ref a])) rfl (rest := []) rfl (hb hbytes d54)
  have c16 : Steps p.tables e below (s₁.setTop (entryFrame m #[.ref a, .ref b, .int (Int32.ofNat o), .int (Int32.ofNat len), .null] 6)) (T15.setTop (mkF m 57 #[.val (.ref a), .val (.ref b), .val (.int (Int32.ofNat o)), .val (.int (Int32.ofNat len)), .val .null, .val (.ref s.heap.size)] [])) := c14.trans (st15 _ (Steps.refl _))
  have ap := apart (Or.inr ⟨_, (wk W (.laysFinal "java/lang/String" "java/lang/String" "value" "[B"))⟩) (Or.inr ⟨_, (wk W (.laysFinal "java/lang/String" "java/lang/String" "coder" "B"))⟩) f1 f2 (t₁ := .array .byte) (t₂ := .byte) (by decide +kernel) (by decide +kernel) (by decide)
  have al := X8.warmed.alike.symm.trans X15.warmed.alike
  have n7 : T11.heap[s.heap.size]? = some N := by rw [q11]; exact n1.1
  exact ⟨T15, none, _, _, _, X15, by simp, rfl, by omega, (fun _ => rfl), ⟨rfl, _, N, bl15, ((Same.refl D _).set _ (by simp)).set _ (by simp), sl15, (Cell.slots_setSlot_ne _ ap).trans sl13, n1.keep al (p15.other hne (p13.other hne n7)), n2, by rw [al.findClass]; exact n3, n4, n5, fun y c h1 h2 => p15.other h1 (p13.other h1 (by rw [q11]; exact n6 y c h2)), by rw [p15.2.2, p13.2.2, q11]; exact z8⟩, fun fs hl => c16.trans (X15.returnOut hexec hret (hb hbytes d57) hl)⟩
end New4
namespace New1
def yN : MethodName := ⟨"java/lang/String", "<init>", "([C)V"⟩
abbrev yB : ByteArray := jdk_42_method_3_code
theorem d0 : decode yB 0 = .ok (.aload_n 0, 1) := by decide +kernel
theorem d1 : decode yB 1 = .ok (.aload_n 1, 1) := by decide +kernel
theorem d2 : decode yB 2 = .ok (.iconst 0, 1) := by decide +kernel
theorem d3 : decode yB 3 = .ok (.aload_n 1, 1) := by decide +kernel
theorem d4 : decode yB 4 = .ok (.arraylength, 1) := by decide +kernel
theorem d5 : decode yB 5 = .ok (.aconst_null, 1) := by decide +kernel
theorem d6 : decode yB 6 = .ok (.invokespecial 27, 3) := by decide +kernel
theorem d9 : decode yB 9 = .ok (.return_, 1) := by decide +kernel
def site : List Cond := [New4.tab] ++ initW "java/lang/String" 27 New4.yN
def tab : Cond := tabOf yN yB 2 none site
def P (a : Addr) (D : Cell) (fV fC : Field) (b : Addr) (A : Cell) (z : Int32) (args : Array Value) (s : State) : Prop := args = #[.ref a, .ref b] ∧ Blank "java/lang/String" a D s ∧ Found "java/lang/String" "value" "[B" fV s ∧ Found "java/lang/String" "coder" "B" fC s ∧ Ch b A s ∧ StaticIs s "java/lang/String" "COMPACT_STRINGS" "Z" (.int z) ∧ ¬ z = 0 ∧ 0 < A.slots.size ∧ A.slots.size ≤ 536870912 ∧ ∀ i, i < A.slots.size → ¬ 255 < cv A i
def E (a : Addr) (D : Cell) (fV fC : Field) (A : Cell) (r : Option Value) (s u : State) : Prop := Got a D fV fC A 0 A.slots.size r s u
/-- new String(chars), not empty, no char above 255: a Latin-1 String of their low bytes -/
theorem law (l : Launch) (a : Addr) (D : Cell) (fV fC : Field) (b : Addr) (A : Cell) (z : Int32) : Law l yN 2 1 3 52 yB 2 none site (P a D fV fC b A z) (E a D fV fC A) [⟨a, fC.slot⟩, ⟨a, fV.slot⟩] 1 A.slots.size := by
  refine Law.of_walk (plainFor_of_name (by decide +kernel)) (by decide +kernel) (by decide +kernel) (by decide) (fun _ _ h => by rw [h.1]; rfl) (fun _ U U' hal hh h => ⟨h.1, h.2.1.mv hal hh, h.2.2.1.al hal, h.2.2.2.1.al hal, h.2.2.2.2.1.mv hal hh, h.2.2.2.2.2.1.there hal hh, h.2.2.2.2.2.2⟩) (fun r U U' V V' h1 hal h2 h => Got.mv r U U' V V' h1 hal h2 h) ?_
  intro p e s m args below meth c s₁ X0 hexec hbytes hml hret hlk hnm hown hh0 W hP
  obtain ⟨rfl, hB, f1, f2, hA, s1, hz, l0, l2, hp⟩ := hP
  have c1 : Steps p.tables e below (s₁.setTop (entryFrame m #[.ref a, .ref b] 2)) (s₁.setTop (mkF m 0 #[.val (.ref a), .val (.ref b)] [])) := entry rfl
  have c2 : Steps p.tables e below (s₁.setTop (entryFrame m #[.ref a, .ref b] 2)) (s₁.setTop (mkF m 6 #[.val (.ref a), .val (.ref b)] [.null, .int (Int32.ofNat A.slots.size), .int 0, .ref b, .ref a])) := c1.trans (by
    refine XS.aloadN X0.here hexec rfl (hb hbytes d0) rfl rfl ?_
    refine XS.aloadN X0.here hexec rfl (hb hbytes d1) rfl rfl ?_
    refine iconstV X0.here hexec rfl 0 (hb hbytes d2) (by decide) ?_
    refine XS.aloadN X0.here hexec rfl (hb hbytes d3) rfl rfl ?_
    refine X0.alen hexec (hA.1.mv X0.warmed.alike hh0) rfl rfl (hb hbytes d4) ?_
    refine XS.aconstNull X0.here hexec rfl (hb hbytes d5) ?_
    exact Steps.refl _)
  obtain ⟨v3, T3, X3, E3, g3⟩ := X0.callN hexec (New4.law l a D fV fC b A z 0 A.slots.size) rfl hown (wks W (initW "java/lang/String" 27 New4.yN)) (W New4.tab (by simp only [site, List.mem_cons, List.mem_append, true_or, or_true])) (W := 0) (Nat.le_of_ble_eq_true rfl) (Nat.le_of_ble_eq_true rfl) (Nat.le_refl _) (by show 0 + A.slots.size ≤ A.slots.size; omega) (g := (mkF m 6 #[.val (.ref a), .val (.ref b)] [.null, .int (Int32.ofNat A.slots.size), .int (Int32.ofNat 0), .ref b, .ref a])) rfl (by rw [hml]; rfl) c2 (argsL := [.ref b, .int (Int32.ofNat 0), .int (Int32.ofNat A.slots.size), .null]) (rest := []) rfl rfl (by show 2 * 0 + 0 ≤ _; decide) (hb hbytes d6) (⟨rfl, hB.mv X0.warmed.alike hh0, f1.al X0.warmed.alike, f2.al X0.warmed.alike, hA.mv X0.warmed.alike hh0, s1.there X0.warmed.alike hh0, hz, l0, by omega, l2, fun i hi => by rw [Nat.zero_add]; exact hp i hi⟩)
  have e0 := Got.mv _ s₁ s _ _ hh0.symm (Vm.Alike.refl _) rfl E3
  obtain rfl := e0.1
  have c4 : Steps p.tables e below (s₁.setTop (entryFrame m #[.ref a, .ref b] 2)) (T3.setTop (mkF m 9 #[.val (.ref a), .val (.ref b)] [])) := g3
  exact ⟨T3, none, _, _, _, X3, by simp, rfl, by omega, (fun _ => rfl), e0, fun fs hl => c4.trans (X3.returnOut hexec hret (hb hbytes d9) hl)⟩
theorem pays {l : Launch} {R : Room} {p : Program} {e : Env} {below : List Frame} {s : State} {sargs : Array Value} {len W : Nat} (a : Addr) (D : Cell) (fV fC : Field) (b : Addr) (A : Cell) (z : Int32) (htab : tab.before sargs s = true) (hfr : 4 ≤ R.frames) (hlo : W + 65 ≤ R.locals) :
    Back l R p e below s sargs yN len W (fun A₁ a₁ => A₁.cells + 1 ≤ R.cells ∧ A₁.slots + A.slots.size ≤ R.slots ∧ P a D fV fC b A z a₁ A₁.U) (fun A₁ _ v₁ B₁ => E a D fV fC A v₁ A₁.U B₁.U ∧ B₁.locs = A₁.locs ++ [⟨a, fC.slot⟩, ⟨a, fV.slot⟩] ∧ B₁.cells = A₁.cells + 1 ∧ B₁.slots = A₁.slots + A.slots.size) :=
  (law l a D fV fC b A z).pays htab hfr (by omega)
end New1
/-- the byte, read back as charAt reads it, is the char -/
theorem lo8_mask {x : Int32} (h0 : ¬ x < 0) (h1 : ¬ 255 < x) : lo8 x &&& 255 = x := by
  have t : ∀ k : Fin 256, lo8 (Int32.ofNat k.val) &&& 255 = Int32.ofNat k.val := by decide +kernel
  rw [Int32.lt_iff_toInt_lt] at h0 h1
  have e0 : (0 : Int32).toInt = 0 := rfl
  have e1 : (255 : Int32).toInt = 255 := rfl
  obtain ⟨k, hk⟩ : ∃ k : Nat, x.toInt = k := ⟨x.toInt.toNat, by omega⟩
  have hx : x = Int32.ofNat k := Int32.toInt_inj.mp (by rw [hk, Int32.toInt_ofNat_small (by omega)])
  rw [hx]
  exact t ⟨k, by omega⟩
end StrChars
namespace StrChars.Road
open Jvm Sem ClassFile Op Lib Jvm.Stand Jvm.Free Jvm.Free.XT
open Jvm.Lib.Cold (StaticIs)
abbrev ST : String := "java/lang/String"
/-- every table word that New1's law asks, flat -/
abbrev words : List Jvm.Cond := [.code New1.yN New1.yB 2 none, .initialized ST, .methodLink ST 27 New4.yN, .instanceMethod New4.yN,
  .code New4.yN New4.yB 6 none, .fieldLink ST 38 ST "COMPACT_STRINGS" "Z", .laysFinal ST ST "value" "[B", .fieldLink ST 9 ST "value" "[B", .laysFinal ST ST "coder" "B", .fieldLink ST 15 ST "coder" "B",
  .methodLink ST 1 Lib.objectInit, .instanceMethod Lib.objectInit, .code Lib.objectInit ⟨#[0xb1]⟩ 1 none, .methodLink ST 177 Cmp3.yN, .static Cmp3.yN, .methodLink ST 47 CodL.yN, .static CodL.yN,
  .code Cmp3.yN Cmp3.yB 6 (some (.array .byte)), .initialized U16, .arrayClass .byte, .methodLink U16 115 Cmp5.yN, .static Cmp5.yN, .code Cmp5.yN Cmp5.yB 7 (some .int), .code CodL.yN CodL.yB 2 (some .byte)]
theorem tab_of {a : Array Value} {s : State} (h : ∀ w ∈ words, w.before a s = true) : New1.tab.before a s = true := by
  have h5 : Cmp5.tab.before a s = true := unparts (wk h (.code Cmp5.yN Cmp5.yB 7 (some .int))) (wks h (.initialized Cmp5.yN.cls :: Cmp5.site))
  have hc : CodL.tab.before a s = true := unparts (wk h (.code CodL.yN CodL.yB 2 (some .byte))) (wks h (.initialized CodL.yN.cls :: CodL.site))
  have q5 : ∀ w ∈ Cmp5.tab :: words, w.before a s = true := fun w hw => (List.mem_cons.mp hw).elim (fun e => e ▸ h5) (h w)
  have h3 : Cmp3.tab.before a s = true := unparts (wk q5 (.code Cmp3.yN Cmp3.yB 6 (some (.array .byte)))) (wks q5 (.initialized Cmp3.yN.cls :: Cmp3.site))
  have q3 : ∀ w ∈ Cmp3.tab :: CodL.tab :: words, w.before a s = true := fun w hw => (List.mem_cons.mp hw).elim (fun e => e ▸ h3) fun hw => (List.mem_cons.mp hw).elim (fun e => e ▸ hc) (h w)
  have h4 : New4.tab.before a s = true := unparts (wk q3 (.code New4.yN New4.yB 6 none)) (wks q3 (.initialized New4.yN.cls :: New4.site))
  have q4 : ∀ w ∈ New4.tab :: words, w.before a s = true := fun w hw => (List.mem_cons.mp hw).elim (fun e => e ▸ h4) (h w)
  exact unparts (wk q4 (.code New1.yN New1.yB 2 none)) (wks q4 (.initialized New1.yN.cls :: New1.site))
/-- the words ride from the start Z to the walk's own state -/
theorem moved {Z s : State} {a0 args : Array Value} (hZ : Z.Warmed39 s.vm) (hw : ∀ d ∈ words, d.before a0 Z = true) : ∀ d ∈ words, d.before args s = true := fun d hd => by
  have q := hw d hd
  have t : ∀ d ∈ words, d = .arrayClass .byte ∨ (d.onTables && d.keepsFace) = true := by decide +kernel
  rcases t d hd with rfl | t
  · exact RoadKit.mvA hZ q
  · exact RoadKit.mv hZ q t
/-- WHAT COMES BACK, over the tables of the start Z: h the heap at the call, h' behind it -/
def Q (Z : State) (x : Addr) (A : Cell) (h : Heap) (v : Option Value) (h' : Heap) (L : List Loc) : Prop := v = none ∧ (∀ y ∈ L, y.base = x) ∧ RoadKit.Keep h h' [x] ∧ h'.size = h.size + 1 ∧ RoadKit.Exa Z h' x ST ∧ RoadKit.Fld Z h' x ST "value" "[B" (.ref h.size) ∧ RoadKit.Fld Z h' x ST "coder" "B" (.int 0) ∧
  (∃ V : Cell, RoadKit.Arr Z h' h.size V .byte ∧ V.vm = .none ∧ Z.vm.findClass "[B" = some V.cls ∧ V.slots.size = A.slots.size ∧ ∀ j, j < A.slots.size → V.slots[j]? = some (.int (lo8 (cv A j)))) ∧
  ∀ (O n d : String) (w : Value), RoadKit.Fld Z h x O n d w → RoadKit.slotOf Z O n d ≠ RoadKit.slotOf Z ST "value" "[B" → RoadKit.slotOf Z O n d ≠ RoadKit.slotOf Z ST "coder" "B" → RoadKit.Fld Z h' x O n d w
/-- **new String(chars) AT A CALL, IN THE ROAD'S FORM**: for specialBack behind newO: x the fresh String, b the char[] with the cell A -/
theorem back {p : Program} {l : Launch} {e : Env} {R : Room} {s : State} {args : Array Value} {below : List Frame} {len W : Nat} {Z : State} {a0 : Array Value} {h : Heap} (hZ : Z.Warmed39 s.vm) (hw : ∀ d ∈ words, d.before a0 Z = true) {kI : Nat} (wi : (Jvm.Cond.instantiable ST kI).before a0 Z = true)
    {x b : Addr} {A : Cell} {z : Int32} {v0 c0 : Value} (E : RoadKit.Exa Z h x ST) (V : RoadKit.Fld Z h x ST "value" "[B" v0) (C : RoadKit.Fld Z h x ST "coder" "B" c0) (K : RoadKit.Arr Z h b A .char) (hty : Typed .char A) (S : RoadKit.Sta Z h ST "COMPACT_STRINGS" "Z" (.int z)) (hz : ¬ z = 0)
    (l0 : 0 < A.slots.size) (l2 : A.slots.size ≤ 536870912) (hp : ∀ i, i < A.slots.size → ¬ 255 < cv A i) (hfr : 4 ≤ R.frames) (hlo : W + 65 ≤ R.locals) :
    Back l R p e below s args New1.yN len W (fun P a => a = #[.ref x, .ref b] ∧ P.U.heap = h ∧ P.cells + 1 ≤ R.cells ∧ P.slots + A.slots.size ≤ R.slots)
      (fun P _ v B => ∃ L, Q Z x A h v B.U.heap L ∧ B.locs = P.locs ++ L ∧ B.cells = P.cells + 1 ∧ B.slots = P.slots + A.slots.size) := by
  intro m meth c P g ig mk a X hg hsize hdg hW hn hp'
  obtain ⟨rfl, rfl, r1, r2⟩ := hp'
  have al : Z.vm.Alike P.U.vm := hZ.alike.trans X.warmed.alike
  obtain ⟨D, cfV, kV, iV, fV, hD, gV, stV, knV, obV, asV, slV⟩ := id V
  obtain ⟨D', cfC, kC, iC, fC, hD', gC, stC, -, -, asC, slC⟩ := id C
  cases hD.symm.trans hD'
  obtain ⟨D2, kD, e1, e2, e3, e4, e5⟩ := id E
  cases hD.symm.trans e1
  obtain ⟨c2, k2, i1, i2, i3, -⟩ := Cond.instantiable_spec wi
  cases e2.symm.trans i1
  cases e3.symm.trans i2
  obtain ⟨kU, u1, u2⟩ := al.2.2 _ _ e3
  have hB : Blank ST x D P.U := ⟨hD, ⟨knV, fun q hq => by rw [hq] at obV; cases obV⟩, by rw [al.findClass]; exact e2, kU, u1, by rw [u2]; exact i3, by rw [u2]; exact e5 i3⟩
  have F1 : Found ST "value" "[B" fV P.U := ⟨SBG.found_only al ⟨cfV, kV, iV, gV⟩, stV⟩
  have F2 : Found ST "coder" "B" fC P.U := ⟨SBG.found_only al ⟨cfC, kC, iC, gC⟩, stC⟩
  have hA : Ch b A P.U := ⟨⟨K.1, State.isArrayOf_alike al K.2.1, K.2.2, by omega⟩, hty⟩
  have hS : StaticIs P.U ST "COMPACT_STRINGS" "Z" (.int z) := by
    obtain ⟨cfS, iS, kS, fS, st, cS, t1, t2, t3, t4, t5, t6, t7⟩ := S
    exact StaticIs.there (s := { Z with heap := P.U.heap }) ⟨cfS, iS, kS, fS, st, cS, t1, t2, t3, t4, t5, (fun q => by rw [q] at t6; cases t6), t7⟩ al rfl
  obtain ⟨v, B, X', ⟨⟨hv, E', V', q1, q2, q3, q4, q5, q6, q7, q8, q9, q10, q11⟩, hl, hc, hs⟩, st⟩ := New1.pays x D fV fC b A z (tab_of (moved hZ hw)) hfr hlo m meth c P g ig mk _ X hg hsize hdg hW hn ⟨r1, r2, rfl, hB, F1, F2, hA, hS, hz, l0, l2, hp⟩
  have al' : Z.vm.Alike B.U.vm := hZ.alike.trans X'.warmed.alike
  have hsz : E'.slots.size = D.slots.size := by
    obtain ⟨-, -, -, kB, w1, w2, w3⟩ := q1
    obtain ⟨kB', y1, y2⟩ := al'.2.2 _ _ e3
    rw [q2.2.1] at w1
    cases w1.symm.trans y1
    rw [w3, e5 i3, y2]
  refine ⟨v, B, X', ⟨_, ⟨hv, ?_, ⟨by omega, fun y cy hy hn' => q10 y cy (by simpa using hn') hy, fun y cy hy => ?_⟩, q11, ⟨E', _, q1.1, by rw [q2.2.1]; exact e2, by rw [q2.2.1]; exact e3, by rw [q2.1]; exact obV, fun _ => by rw [hsz]; exact e5 i3⟩,
    ⟨E', cfV, kV, iV, fV, q1.1, gV, stV, by rw [q2.1]; exact knV, by rw [q2.1]; exact obV, by rw [q2.2.1]; exact asV, q3⟩, ⟨E', cfC, kC, iC, fC, q1.1, gC, stC, by rw [q2.1]; exact knV, by rw [q2.1]; exact obV, by rw [q2.2.1]; exact asC, q4⟩,
    ⟨V', ⟨q5.1, State.isArrayOf_alike al'.symm q5.2.1, q5.2.2.1⟩, q6, by rw [← al'.findClass]; exact q7, q8, fun j hj => by have := q9 j hj; rwa [Nat.zero_add] at this⟩, fun O n d w F n1 n2 => ?_⟩, hl, hc, hs⟩, st⟩
  · intro y hy
    simp only [List.mem_cons, List.not_mem_nil, or_false] at hy
    rcases hy with rfl | rfl <;> rfl
  · by_cases q : y = x
    · subst q
      cases hD.symm.trans hy
      exact ⟨E', q1.1, q2.2.1, q2.1, hsz⟩
    · exact ⟨cy, q10 y cy q hy, rfl, rfl, rfl⟩
  · obtain ⟨D3, cf, k, i, f, g1, g2, g3, g4, g5, g6, g7⟩ := F
    cases hD.symm.trans g1
    simp only [RoadKit.slotOf, g2, gV, gC, Option.map_some, Option.getD_some] at n1 n2
    exact ⟨E', cf, k, i, f, q1.1, g2, g3, by rw [q2.1]; exact g4, by rw [q2.1]; exact g5, by rw [q2.2.1]; exact g6, by rw [q2.2.2 f.slot (by simp [n1, n2])]; exact g7⟩
end StrChars.Road
namespace StrChars.Road
open Jvm Sem ClassFile Op Lib Jvm.Stand Jvm.Free Jvm.Free.XT
/-- WHAT COMES BACK, the byte[] as a list of values -/
def QA (Z : State) (x : Addr) (zn : Int32) (cs : List Int32) (h : Heap) (v : Option Value) (h' : Heap) (L : List Loc) : Prop := v = none ∧ (∀ y ∈ L, y.base = x) ∧ RoadKit.Keep h h' [x] ∧ h'.size = h.size + 1 ∧ RoadKit.Exa Z h' x ST ∧ RoadKit.Fld Z h' x ST "value" "[B" (.ref h.size) ∧ RoadKit.Fld Z h' x ST "coder" "B" (.int 0) ∧
  (∃ kb, Z.vm.findClass "[B" = some kb ∧ RoadKit.Arv Z h' h.size kb .byte zn (cs.map fun c => .int (lo8 c)) (.int 0)) ∧
  ∀ (O n d : String) (w : Value), RoadKit.Fld Z h x O n d w → RoadKit.slotOf Z O n d ≠ RoadKit.slotOf Z ST "value" "[B" → RoadKit.slotOf Z O n d ≠ RoadKit.slotOf Z ST "coder" "B" → RoadKit.Fld Z h' x O n d w
/-- **new String(chars) AT A CALL, THE ARRAYS AS LISTS**: the char[] at b holds cs, not empty, no char above 255 -/
theorem backArv {p : Program} {l : Launch} {e : Env} {R : Room} {s : State} {args : Array Value} {below : List Frame} {len W : Nat} {Z : State} {a0 : Array Value} {h : Heap} (hZ : Z.Warmed39 s.vm) (hw : ∀ d ∈ words, d.before a0 Z = true) {kI : Nat} (wi : (Jvm.Cond.instantiable ST kI).before a0 Z = true)
    {x b : Addr} {k : ClassId} {zn z : Int32} {cs : List Int32} {dv v0 c0 : Value} (E : RoadKit.Exa Z h x ST) (V : RoadKit.Fld Z h x ST "value" "[B" v0) (C : RoadKit.Fld Z h x ST "coder" "B" c0) (K : RoadKit.Arv Z h b k .char zn (cs.map Value.int) dv) (S : RoadKit.Sta Z h ST "COMPACT_STRINGS" "Z" (.int z)) (hz : ¬ z = 0)
    (hlen : zn.toNatClampNeg = cs.length) (h0 : 0 < cs.length) (hbig : cs.length ≤ 536870912) (hall : ∀ c ∈ cs, ¬ 255 < c) (hfr : 4 ≤ R.frames) (hlo : W + 65 ≤ R.locals) :
    Back l R p e below s args New1.yN len W (fun P a => a = #[.ref x, .ref b] ∧ P.U.heap = h ∧ P.cells + 1 ≤ R.cells ∧ P.slots + cs.length ≤ R.slots)
      (fun P _ v B => ∃ L, QA Z x zn cs h v B.U.heap L ∧ B.locs = P.locs ++ L ∧ B.cells = P.cells + 1 ∧ B.slots = P.slots + cs.length) := by
  obtain ⟨A, K1, K2, K3, K4, K5, K6⟩ := K
  have e : A.slots.size = cs.length := K3.trans hlen
  have hat : ∀ (i : Nat) (hi : i < cs.length), A.slots[i]? = some (.int cs[i]) := fun i hi => by rw [K5 i (by omega)]; simp [List.getD_eq_getElem?_getD, hi]
  have hcv : ∀ (i : Nat) (hi : i < cs.length), cv A i = cs[i] := fun i hi => by unfold cv; rw [hat i hi]
  have hty : Typed .char A := fun i v hv => by
    have hi : i < A.slots.size := (Array.getElem?_eq_some_iff.mp hv).1
    have q := K5 i hi
    rw [hv] at q
    rw [Option.some.inj q]
    exact K6 i hi
  refine Back.mono (back hZ hw wi E V C K1 hty S hz (by omega) (by omega) (fun i hi => by rw [hcv i (by omega)]; exact hall _ (List.getElem_mem _)) hfr hlo) (fun P a hp => ⟨hp.1, hp.2.1, hp.2.2.1, by rw [e]; exact hp.2.2.2⟩) (fun P a v B hp hq => ?_)
  obtain ⟨L, ⟨q1, q2, q3, q4, q5, q6, q7, ⟨V', v1, v2, v3, v4, v5⟩, q9⟩, hl, hc, hs⟩ := hq
  refine ⟨L, ⟨q1, q2, q3, q4, q5, q6, q7, ⟨V'.cls, v3, V', v1, rfl, by rw [v4, e, hlen], K4, fun i hi => ?_, fun i hi => ?_⟩, q9⟩, hl, hc, by rw [hs, e]⟩
  · have hi' : i < cs.length := by omega
    rw [v5 i (by omega), hcv i hi']; simp [List.getD_eq_getElem?_getD, hi']
  · have hi' : i < cs.length := by omega
    simp only [List.getD_eq_getElem?_getD, List.getElem?_map, List.getElem?_eq_getElem hi', Option.map_some, Option.getD_some]
    exact fits_lo8 _
end StrChars.Road
namespace StrChars.Road
open Jvm Sem ClassFile Op Lib Jvm.Stand Jvm.Free Jvm.Free.XT
/-- WHAT COMES BACK, in the writer's own shape -/
def QV (Z : State) (x : Addr) (N : Int32) (bs : List Int32) (h : Heap) (n0 : Nat) (v : Option Value) (h' : Heap) (L : List Loc) : Prop := v = none ∧ RoadKit.Fr n0 L ∧ RoadKit.Keep h h' [x] ∧ RoadKit.Exa Z h' x ST ∧ RoadKit.Fld Z h' x ST "coder" "B" (.int 0) ∧
  ∃ (t : Addr) (kb : ClassId), n0 ≤ t ∧ h.size ≤ t ∧ ¬ t = x ∧ RoadKit.Fld Z h' x ST "value" "[B" (.ref t) ∧ RoadKit.Arv Z h' t kb .byte N (bs.map Value.int) (.int 0)
/-- **new String(chars) AT A CALL, FOR THE WRITER**: a char[] of n known ints, each 0 to 255 -/
theorem backV {p : Program} {l : Launch} {e : Env} {R : Room} {s : State} {args : Array Value} {below : List Frame} {len W : Nat} {Z : State} {a0 : Array Value} {h : Heap} (hZ : Z.Warmed39 s.vm) (hw : ∀ d ∈ words, d.before a0 Z = true) {kI : Nat} (wi : (Jvm.Cond.instantiable ST kI).before a0 Z = true)
    {x b : Addr} {kC : ClassId} {cs bs : List Int32} {d v0 c0 : Value} {z N : Int32} {n n0 : Nat} (hx0 : n0 ≤ x) (hh0 : n0 ≤ h.size) (E : RoadKit.Exa Z h x ST) (V : RoadKit.Fld Z h x ST "value" "[B" v0) (C : RoadKit.Fld Z h x ST "coder" "B" c0) (K : RoadKit.Arv Z h b kC .char N (cs.map Value.int) d) (S : RoadKit.Sta Z h ST "COMPACT_STRINGS" "Z" (.int z)) (hz : ¬ z = 0)
    (hn : cs.length = n) (hN : N = Int32.ofNat n) (l0 : 0 < n) (l2 : n ≤ 4000) (hp : ∀ c ∈ cs, ¬ c < 0 ∧ ¬ (255 : Int32) < c) (hb : bs = cs.map (fun c => c.toInt8.toInt32)) (hfr : 4 ≤ R.frames) (hlo : W + 65 ≤ R.locals) :
    Back l R p e below s args (⟨"java/lang/String", "<init>", "([C)V"⟩ : MethodName) len W (fun P a => a = #[.ref x, .ref b] ∧ P.U.heap = h ∧ P.cells + 1 ≤ R.cells ∧ P.slots + n ≤ R.slots)
      (fun P _ v B => ∃ L, QV Z x N bs h n0 v B.U.heap L ∧ B.locs = P.locs ++ L ∧ B.cells = P.cells + 1 ∧ B.slots = P.slots + n) := by
  subst hn hN hb
  refine Back.mono (backArv hZ hw wi E V C K S hz (n32 (by omega)) l0 (by omega) (fun c hc => (hp c hc).2) hfr hlo) (fun P a hp => hp) (fun P a v B hp hq => ?_)
  obtain ⟨L, ⟨q1, q2, q3, q4, q5, q6, q7, ⟨kb, v1, v2⟩, q9⟩, hl, hc, hs⟩ := hq
  exact ⟨L, ⟨q1, fun y hy => by rw [q2 y hy]; exact hx0, q3, q5, q7, h.size, kb, hh0, Nat.le_refl _, Nat.ne_of_gt E.lt, q6, by rw [List.map_map]; exact v2⟩, hl, hc, hs⟩
end StrChars.Road
namespace StrChars
open Jvm Sem ClassFile Op Lib Jvm.Stand Jvm.Free.XT Jvm.Free.ALB Jvm.Free.JM Jvm.Free
open Jvm.Lib.Cold (StaticIs)
def hi8 (x : Int32) : Int32 := lo8 (x >>> ((8 : Int32) &&& 31))
/-- what StringUTF16.getChar makes of two bytes -/
def pairCh (u v : Int32) : Int32 := (((u &&& 255) <<< ((0 : Int32) &&& 31)) ||| ((v &&& 255) <<< ((8 : Int32) &&& 31))).toUInt32.toUInt16.toUInt32.toInt32
theorem shr0 (c : Int32) : c >>> ((0 : Int32) &&& 31) = c := by
  have e : ((0 : Int32) &&& 31) = 0 := by decide
  rw [e]
  apply Int32.toBitVec_inj.mp
  rw [Int32.toBitVec_shiftRight]
  have e1 : ((0 : Int32).toBitVec.smod 32) = 0#32 := by decide
  rw [e1, BitVec.sshiftRight_eq']
  exact BitVec.sshiftRight_zero
theorem lo8_and (x : Int32) : (lo8 x &&& 255).toBitVec.toNat = x.toBitVec.toNat % 256 := by
  have h : (lo8 x).toBitVec = (x.toBitVec.signExtend 8).signExtend 32 := by rw [lo8, Int8.toBitVec_toInt32, Int32.toBitVec_toInt8]
  rw [Int32.toBitVec_and, BitVec.toNat_and, h]
  have e : ((x.toBitVec.signExtend 8).signExtend 32).toNat % 256 = x.toBitVec.toNat % 256 := by
    rw [BitVec.toNat_signExtend]
    have hlt := x.toBitVec.isLt
    simp only [BitVec.toNat_setWidth, BitVec.toNat_signExtend]
    split <;> split <;> omega
  rw [← e]
  exact Nat.and_two_pow_sub_one_eq_mod _ 8
theorem pair_says {c : Int32} (h0 : ¬ c < 0) (h1 : ¬ 65535 < c) : pairCh (lo8 c) (hi8 c) = c := by
  rw [Int32.lt_iff_toInt_lt] at h0 h1
  have e0 : (0 : Int32).toInt = 0 := rfl
  have e1 : (65535 : Int32).toInt = 65535 := rfl
  have hc : c.toInt = c.toBitVec.toNat := by
    have := c.toBitVec.isLt
    have e : c.toInt = c.toBitVec.toInt := rfl
    rw [e] at h0 h1
    rw [e]
    rw [BitVec.toInt_eq_toNat_cond] at h0 h1 ⊢
    split at h0 <;> split <;> omega
  have hn : c.toBitVec.toNat < 65536 := by omega
  have a1 := lo8_and c
  have a2 : (hi8 c &&& 255).toBitVec.toNat = c.toBitVec.toNat / 256 := by
    rw [hi8, lo8_and]
    have e : ((8 : Int32) &&& 31) = 8 := by decide
    rw [e, Int32.toBitVec_shiftRight]
    have e2 : ((8 : Int32).toBitVec.smod 32) = 8#32 := by decide
    rw [e2, BitVec.sshiftRight_eq', BitVec.toNat_sshiftRight_of_msb_false (by rw [BitVec.msb_eq_false_iff_two_mul_lt]; omega)]
    show c.toBitVec.toNat >>> 8 % 256 = _
    rw [Nat.shiftRight_eq_div_pow]
    omega
  unfold pairCh
  apply Int32.toBitVec_inj.mp
  apply BitVec.eq_of_toNat_eq
  have f0 : ((0 : Int32) &&& 31) = 0 := by decide
  have f8 : ((8 : Int32) &&& 31) = 8 := by decide
  rw [f0, f8]
  have g : (((lo8 c &&& 255) <<< (0 : Int32)) ||| ((hi8 c &&& 255) <<< (8 : Int32))).toBitVec.toNat = c.toBitVec.toNat := by
    rw [Int32.toBitVec_or, Int32.toBitVec_shiftLeft, Int32.toBitVec_shiftLeft]
    have s0 : ((0 : Int32).toBitVec.smod 32) = 0#32 := by decide
    have s8 : ((8 : Int32).toBitVec.smod 32) = 8#32 := by decide
    rw [s0, s8, BitVec.toNat_or]
    simp only [BitVec.shiftLeft_eq', BitVec.toNat_shiftLeft, a1, a2]
    show (c.toBitVec.toNat % 256) <<< 0 % 2 ^ 32 ||| (c.toBitVec.toNat / 256) <<< 8 % 2 ^ 32 = _
    rw [Nat.shiftLeft_zero, Nat.mod_eq_of_lt (show c.toBitVec.toNat % 256 < 2 ^ 32 by omega), Nat.mod_eq_of_lt (show (c.toBitVec.toNat / 256) <<< 8 < 2 ^ 32 by rw [Nat.shiftLeft_eq]; omega), Nat.or_comm, ← Nat.shiftLeft_add_eq_or_of_lt (by omega), Nat.shiftLeft_eq]
    omega
  show BitVec.toNat (((((lo8 c &&& 255) <<< (0 : Int32)) ||| ((hi8 c &&& 255) <<< (8 : Int32))).toBitVec.setWidth 16).setWidth 32) = _
  rw [BitVec.toNat_setWidth, BitVec.toNat_setWidth, g]
  omega
end StrChars
namespace StrChars
open Jvm Sem ClassFile Op Lib Jvm.Stand Jvm.Free.XT Jvm.Free.ALB Jvm.Free.JM Jvm.Free
open Jvm.Lib.Cold (StaticIs)
theorem shr1 {n : Nat} (h : 2 * n < 2 ^ 31) : Int32.ofNat (2 * n) >>> ((1 : Int32) &&& 31) = Int32.ofNat n := by
  have e : ((1 : Int32) &&& 31) = 1 := by decide
  rw [e]
  apply Int32.toBitVec_inj.mp
  rw [Int32.toBitVec_shiftRight]
  have e1 : ((1 : Int32).toBitVec.smod 32) = 1#32 := by decide
  have hm : (BitVec.ofNat 32 (2 * n)).toNat = 2 * n := by rw [BitVec.toNat_ofNat, Nat.mod_eq_of_lt (by omega)]
  rw [e1, BitVec.sshiftRight_eq']
  apply BitVec.eq_of_toNat_eq
  show ((BitVec.ofNat 32 (2 * n)).sshiftRight 1).toNat = (BitVec.ofNat 32 n).toNat
  rw [BitVec.toNat_sshiftRight_of_msb_false (by rw [BitVec.msb_eq_false_iff_two_mul_lt, hm]; omega), hm, BitVec.toNat_ofNat, Nat.shiftRight_eq_div_pow]
  omega
theorem narrow_ch {c : Int32} (h0 : ¬ c < 0) (h1 : ¬ 65535 < c) : narrow .char (.int c) = .int c := by
  have q : narrow .char (.int (pairCh (lo8 c) (hi8 c))) = .int (pairCh (lo8 c) (hi8 c)) := narrow_c _
  rwa [pair_says h0 h1] at q
/-- the array's cell V codes the n chars f 0 .. f (n - 1) by the coder cd, as the JDK does: coder 1 just where some char is above 255 -/
def Cod (cd : Int32) (n : Nat) (f : Nat → Int32) (V : Cell) : Prop := (cd = 0 ∧ V.slots.size = n ∧ ∀ j, j < n → V.slots[j]? = some (.int (lo8 (f j))) ∧ ¬ 255 < f j) ∨ (cd = 1 ∧ V.slots.size = 2 * n ∧ (∀ j, j < n → V.slots[2 * j]? = some (.int (lo8 (f j))) ∧ V.slots[2 * j + 1]? = some (.int (hi8 (f j)))) ∧ ∃ j, j < n ∧ 255 < f j)
theorem Cod.cd {cd : Int32} {n : Nat} {f : Nat → Int32} {V : Cell} (h : Cod cd n f V) : cd = 0 ∨ cd = 1 := h.imp (fun q => q.1) fun q => q.1
theorem Cod.len {cd : Int32} {n : Nat} {f : Nat → Int32} {V : Cell} (h : Cod cd n f V) (hs : V.slots.size < 2 ^ 31) : Int32.ofNat V.slots.size >>> (cd &&& 31) = Int32.ofNat n := by
  rcases h with ⟨rfl, h, -⟩ | ⟨rfl, h, -⟩
  · rw [shr0, h]
  · rw [h, shr1 (by omega)]
/-- **x is a String of the n chars f 0 .. f (n - 1)**, Latin-1 or UTF-16; its array at t has the cell V -/
def Txt (x t : Addr) (V : Cell) (cd : Int32) (n : Nat) (f : Nat → Int32) (U : State) : Prop := Exact "java/lang/String" x U ∧ Has x "java/lang/String" "value" "[B" (.ref t) U ∧ Has x "java/lang/String" "coder" "B" (.int cd) U ∧ XT.Arr .byte t V U ∧ Cod cd n f V ∧ ∀ j, j < n → ¬ f j < 0 ∧ ¬ 65535 < f j
theorem Txt.mv {x t : Addr} {V : Cell} {cd : Int32} {n : Nat} {f : Nat → Int32} {U U' : State} (h : Txt x t V cd n f U) (hal : U.vm.Alike U'.vm) (hh : U'.heap = U.heap) : Txt x t V cd n f U' := ⟨h.1.mv hal hh, h.2.1.mv hal hh, h.2.2.1.mv hal hh, h.2.2.2.1.mv hal hh, h.2.2.2.2⟩
namespace Cdr
def yN : MethodName := ⟨"java/lang/String", "coder", "()B"⟩
abbrev yB : ByteArray := jdk_42_method_152_code
theorem d0 : decode yB 0 = .ok (.getstatic 38, 3) := by decide +kernel
theorem d3 : decode yB 3 = .ok (.ifCond (.eq) 10, 3) := by decide +kernel
theorem d6 : decode yB 6 = .ok (.aload_n 0, 1) := by decide +kernel
theorem d7 : decode yB 7 = .ok (.getfield 15, 3) := by decide +kernel
theorem d10 : decode yB 10 = .ok (.goto 4, 3) := by decide +kernel
theorem d14 : decode yB 14 = .ok (.ireturn, 1) := by decide +kernel
def site : List Cond := [.fieldLink "java/lang/String" 38 "java/lang/String" "COMPACT_STRINGS" "Z", .fieldLink "java/lang/String" 15 "java/lang/String" "coder" "B"]
def tab : Cond := tabOf yN yB 1 (some .byte) site
def P (x : Addr) (cd z : Int32) (args : Array Value) (s : State) : Prop := args = #[.ref x] ∧ Has x "java/lang/String" "coder" "B" (.int cd) s ∧ (cd = 0 ∨ cd = 1) ∧ StaticIs s "java/lang/String" "COMPACT_STRINGS" "Z" (.int z) ∧ ¬ z = 0
def E (cd : Int32) (r : Option Value) (s u : State) : Prop := XT.PureE (some (.int cd)) r s u
theorem law (l : Launch) (x : Addr) (cd z : Int32) : Law l yN 1 0 0 0 yB 1 (some .byte) site (P x cd z) (E cd) [] 0 0 := by
  refine Law.of_walk (plainFor_of_name (by decide +kernel)) (by decide +kernel) (by decide +kernel) (by decide) (fun _ _ h => by rw [h.1]; rfl) (fun _ U U' hal hh h => ⟨h.1, h.2.1.mv hal hh, h.2.2.1, h.2.2.2.1.there hal hh, h.2.2.2.2⟩) (fun r U U' V V' h1 hal h2 h => XT.PureE.mv r U U' V V' h1 hal h2 h) ?_
  intro p e s m args below meth c s₁ X0 hexec hbytes hml hret hlk hnm hown hh0 W hP
  obtain ⟨rfl, hx, hc, s1, hz⟩ := hP
  have c1 : Steps p.tables e below (s₁.setTop (entryFrame m #[.ref x] 1)) (s₁.setTop (mkF m 0 #[.val (.ref x)] [])) := entry rfl
  obtain ⟨T2, X2, q2, st2⟩ := X0.sget hexec hown (wk W (.fieldLink "java/lang/String" 38 "java/lang/String" "COMPACT_STRINGS" "Z")) s1 (fun _ _ h => by rw [hh0]; exact h) (g := (mkF m 0 #[.val (.ref x)] [])) rfl (hb hbytes d0)
  have hh2 := q2.trans hh0
  have c3 : Steps p.tables e below (s₁.setTop (entryFrame m #[.ref x] 1)) (T2.setTop (mkF m 7 #[.val (.ref x)] [.ref x])) := (c1.trans (st2 _ (Steps.refl _))).trans (by
    refine XS.ifNo X2.here hexec rfl (hb hbytes d3) rfl (i0_eq_f hz) ?_
    refine XS.aloadN X2.here hexec rfl (hb hbytes d6) rfl rfl ?_
    exact Steps.refl _)
  obtain ⟨T4, X4, q4, st4⟩ := X2.hget hexec hown (wk W (.fieldLink "java/lang/String" 15 "java/lang/String" "coder" "B")) (hx.mv X2.warmed.alike hh2) (g := (mkF m 7 #[.val (.ref x)] [.ref x])) rfl (rest := []) rfl (hb hbytes d7)
  have c5 : Steps p.tables e below (s₁.setTop (entryFrame m #[.ref x] 1)) (T4.setTop (mkF m 14 #[.val (.ref x)] [.int cd])) := (c3.trans (st4 _ (Steps.refl _))).trans (by
    refine XS.goto X4.here hexec rfl (pc0 := 10) rfl (hb hbytes d10) (by decide) rfl ?_
    exact Steps.refl _)
  exact ⟨T4, some (.int cd), _, _, _, X4, rfl, rfl, rfl, (fun h => by cases h), ⟨rfl, q4.trans hh2⟩, fun fs hl => c5.trans (X4.ireturnOut hexec hret (by rcases hc with rfl | rfl <;> rfl) (Or.inr (Or.inr (Or.inl rfl))) (hb hbytes d14) hl)⟩
end Cdr
namespace Len
def yN : MethodName := ⟨"java/lang/String", "length", "()I"⟩
abbrev yB : ByteArray := jdk_42_method_54_code
theorem d0 : decode yB 0 = .ok (.aload_n 0, 1) := by decide +kernel
theorem d1 : decode yB 1 = .ok (.getfield 9, 3) := by decide +kernel
theorem d4 : decode yB 4 = .ok (.arraylength, 1) := by decide +kernel
theorem d5 : decode yB 5 = .ok (.aload_n 0, 1) := by decide +kernel
theorem d6 : decode yB 6 = .ok (.invokevirtual 335, 3) := by decide +kernel
theorem d9 : decode yB 9 = .ok (.ishr, 1) := by decide +kernel
theorem d10 : decode yB 10 = .ok (.ireturn, 1) := by decide +kernel
def site : List Cond := [.fieldLink "java/lang/String" 9 "java/lang/String" "value" "[B", Cdr.tab] ++ virtW "java/lang/String" 335 "java/lang/String" Cdr.yN Cdr.yN
def tab : Cond := tabOf yN yB 1 (some .int) site
def P (x t : Addr) (V : Cell) (cd : Int32) (n : Nat) (f : Nat → Int32) (z : Int32) (args : Array Value) (s : State) : Prop := args = #[.ref x] ∧ Txt x t V cd n f s ∧ StaticIs s "java/lang/String" "COMPACT_STRINGS" "Z" (.int z) ∧ ¬ z = 0
def E (n : Nat) (r : Option Value) (s u : State) : Prop := XT.PureE (some (.int (Int32.ofNat n))) r s u
/-- length() of a String of n chars, in either coding -/
theorem law (l : Launch) (x t : Addr) (V : Cell) (cd : Int32) (n : Nat) (f : Nat → Int32) (z : Int32) : Law l yN 1 0 1 13 yB 1 (some .int) site (P x t V cd n f z) (E n) [] 0 0 := by
  refine Law.of_walk (plainFor_of_name (by decide +kernel)) (by decide +kernel) (by decide +kernel) (by decide) (fun _ _ h => by rw [h.1]; rfl) (fun _ U U' hal hh h => ⟨h.1, h.2.1.mv hal hh, h.2.2.1.there hal hh, h.2.2.2⟩) (fun r U U' V V' h1 hal h2 h => XT.PureE.mv r U U' V V' h1 hal h2 h) ?_
  intro p e s m args below meth c s₁ X0 hexec hbytes hml hret hlk hnm hown hh0 W hP
  obtain ⟨rfl, hx, s1, hz⟩ := hP
  have v31 := hx.2.2.2.1.2.2.2
  have c1 : Steps p.tables e below (s₁.setTop (entryFrame m #[.ref x] 1)) (s₁.setTop (mkF m 1 #[.val (.ref x)] [.ref x])) := Steps.trans (entry rfl) (by
    show Steps p.tables e below (s₁.setTop (mkF m 0 #[.val (.ref x)] [])) _
    refine XS.aloadN X0.here hexec rfl (hb hbytes d0) rfl rfl ?_
    exact Steps.refl _)
  obtain ⟨T2, X2, q2, st2⟩ := X0.hget hexec hown (wk W (.fieldLink "java/lang/String" 9 "java/lang/String" "value" "[B")) (hx.mv X0.warmed.alike hh0).2.1 (g := (mkF m 1 #[.val (.ref x)] [.ref x])) rfl (rest := []) rfl (hb hbytes d1)
  have hh2 := q2.trans hh0
  have hx2 := hx.mv X2.warmed.alike hh2
  have c3 : Steps p.tables e below (s₁.setTop (entryFrame m #[.ref x] 1)) (T2.setTop (mkF m 6 #[.val (.ref x)] [.ref x, .int (Int32.ofNat V.slots.size)])) := (c1.trans (st2 _ (Steps.refl _))).trans (by
    refine X2.alen hexec hx2.2.2.2.1 rfl rfl (hb hbytes d4) ?_
    refine XS.aloadN X2.here hexec rfl (hb hbytes d5) rfl rfl ?_
    exact Steps.refl _)
  obtain ⟨v4, T4, X4, E4, g4⟩ := X2.callV hexec (Cdr.law l x cd z) hown (wks W (virtW "java/lang/String" 335 "java/lang/String" Cdr.yN Cdr.yN)) rfl (by decide) (wk W Cdr.tab) (W := 1) (Nat.le_of_ble_eq_true rfl) (Nat.le_of_ble_eq_true rfl) (Nat.le_refl _) (Nat.le_refl _) (hx2.1.fc X2.warmed.alike) hx2.1.is (g := (mkF m 6 #[.val (.ref x)] [.ref x, .int (Int32.ofNat V.slots.size)])) rfl (by rw [hml]; rfl) c3 (argsL := []) (rest := [.int (Int32.ofNat V.slots.size)]) rfl rfl (by show 2 * 0 + (1 + 0) ≤ _; decide) (hb hbytes d6) (⟨rfl, hx2.2.2.1, hx.2.2.2.2.1.cd, s1.there X2.warmed.alike hh2, hz⟩)
  obtain ⟨rfl, q4⟩ := E4
  have c5 : Steps p.tables e below (s₁.setTop (entryFrame m #[.ref x] 1)) (T4.setTop (mkF m 10 #[.val (.ref x)] [.int (Int32.ofNat V.slots.size >>> (cd &&& 31))])) := Steps.trans g4 (by
    refine ishr X4.here hexec rfl (hb hbytes d9) rfl ?_
    exact Steps.refl _)
  rw [hx.2.2.2.2.1.len v31] at c5
  exact ⟨T4, some (.int (Int32.ofNat n)), _, _, _, X4, rfl, rfl, rfl, (fun h => by cases h), ⟨rfl, q4.trans hh2⟩, fun fs hl => c5.trans (X4.ireturnOut hexec hret rfl (Or.inl rfl) (hb hbytes d10) hl)⟩
theorem pays {l : Launch} {R : Room} {p : Program} {e : Env} {below : List Frame} {s : State} {sargs : Array Value} {len W : Nat} (x t : Addr) (V : Cell) (cd : Int32) (n : Nat) (f : Nat → Int32) (z : Int32) (htab : tab.before sargs s = true) (hfr : 2 ≤ R.frames) (hlo : W + 25 ≤ R.locals) :
    Back l R p e below s sargs yN len W (fun A₁ a₁ => A₁.cells + 0 ≤ R.cells ∧ A₁.slots + 0 ≤ R.slots ∧ P x t V cd n f z a₁ A₁.U) (fun A₁ _ v₁ B₁ => E n v₁ A₁.U B₁.U ∧ B₁.locs = A₁.locs ++ [] ∧ B₁.cells = A₁.cells + 0 ∧ B₁.slots = A₁.slots + 0) :=
  (law l x t V cd n f z).pays htab hfr (by omega)
end Len
end StrChars
namespace StrChars.Road
open Jvm Sem ClassFile Op Lib Jvm.Stand Jvm.Free Jvm.Free.XT
open Jvm.Lib.Cold (StaticIs)
theorem consq {a : Array Value} {s : State} {c : Jvm.Cond} {L : List Jvm.Cond} (h0 : c.before a s = true) (h : ∀ w ∈ L, w.before a s = true) : ∀ w ∈ c :: L, w.before a s = true := fun w hw => (List.mem_cons.mp hw).elim (fun e => e ▸ h0) (h w)
/-- the words of String.length(), either coding -/
abbrev wordsLen : List Jvm.Cond := [.code Len.yN Len.yB 1 (some .int), .initialized ST, .fieldLink ST 9 ST "value" "[B", .fieldLink ST 38 ST "COMPACT_STRINGS" "Z", .fieldLink ST 15 ST "coder" "B", .code Cdr.yN Cdr.yB 1 (some .byte), .methodLink ST 335 Cdr.yN, .declares Cdr.yN, .selects ST Cdr.yN Cdr.yN, .instanceMethod Cdr.yN]
theorem tabLen_of {a : Array Value} {s : State} (h : ∀ w ∈ wordsLen, w.before a s = true) : Len.tab.before a s = true := by
  have hc : Cdr.tab.before a s = true := unparts (wk h (.code Cdr.yN Cdr.yB 1 (some .byte))) (wks h (.initialized Cdr.yN.cls :: Cdr.site))
  have q := consq hc h
  exact unparts (wk q (.code Len.yN Len.yB 1 (some .int))) (wks q (.initialized Len.yN.cls :: Len.site))
theorem movedLen {Z s : State} {a0 args : Array Value} (hZ : Z.Warmed39 s.vm) (hw : ∀ d ∈ wordsLen, d.before a0 Z = true) : ∀ d ∈ wordsLen, d.before args s = true := fun d hd => by
  have q := hw d hd
  have t : ∀ d ∈ wordsLen, d = .arrayClass .byte ∨ (d.onTables && d.keepsFace) = true := by decide +kernel
  rcases t d hd with rfl | t
  · exact RoadKit.mvA hZ q
  · exact RoadKit.mv hZ q t
/-- the bytes of the chars cs, low before high -/
def wideBytes : List Int32 → List Value
  | [] => []
  | c :: cs => .int (lo8 c) :: .int (hi8 c) :: wideBytes cs
theorem wide_lo (d : Value) : ∀ (cs : List Int32) (j : Nat), j < cs.length → (wideBytes cs).getD (2 * j) d = .int (lo8 (cs.getD j 0))
  | [], j, h => absurd h (Nat.not_lt_zero j)
  | c :: cs, 0, _ => rfl
  | c :: cs, j + 1, h => by
    have q := wide_lo d cs j (by simpa using h)
    rw [show 2 * (j + 1) = 2 * j + 1 + 1 from by omega]
    simpa [wideBytes] using q
theorem wide_hi (d : Value) : ∀ (cs : List Int32) (j : Nat), j < cs.length → (wideBytes cs).getD (2 * j + 1) d = .int (hi8 (cs.getD j 0))
  | [], j, h => absurd h (Nat.not_lt_zero j)
  | c :: cs, 0, _ => rfl
  | c :: cs, j + 1, h => by
    have q := wide_hi d cs j (by simpa using h)
    rw [show 2 * (j + 1) + 1 = 2 * j + 1 + 1 + 1 from by omega]
    simpa [wideBytes] using q
theorem low_at (d : Value) (cs : List Int32) (j : Nat) (h : j < cs.length) : (cs.map fun c => Value.int (lo8 c)).getD j d = .int (lo8 (cs.getD j 0)) := by
  simp [List.getD_eq_getElem?_getD, h]
/-- an array of N2 bytes vs codes the chars cs by the coder cd -/
def CodA (cs : List Int32) (cd N2 : Int32) (vs : List Value) : Prop := (cd = 0 ∧ N2 = Int32.ofNat cs.length ∧ vs = (cs.map fun c => Value.int (lo8 c)) ∧ ∀ c ∈ cs, ¬ 255 < c) ∨ (cd = 1 ∧ N2 = Int32.ofNat (2 * cs.length) ∧ vs = wideBytes cs ∧ ∃ c ∈ cs, 255 < c)
theorem CodA.cod {cs : List Int32} {cd N2 : Int32} {vs : List Value} {V : Cell} (h : CodA cs cd N2 vs) (hn : 2 * cs.length < 2 ^ 31) (hs : V.slots.size = N2.toNatClampNeg) (hv : RoadKit.Has V vs (.int 0)) : Cod cd cs.length (fun j => cs.getD j 0) V := by
  rcases h with ⟨rfl, rfl, rfl, h⟩ | ⟨rfl, rfl, rfl, c, hc, hw⟩
  · rw [n32 (by omega)] at hs
    exact Or.inl ⟨rfl, hs, fun j hj => ⟨by rw [hv j (by omega), low_at _ _ _ hj], by
      have e : cs.getD j 0 = cs[j] := by simp [List.getD_eq_getElem?_getD, hj]
      show ¬ 255 < cs.getD j 0
      rw [e]; exact h _ (List.getElem_mem _)⟩⟩
  · rw [n32 (by omega)] at hs
    obtain ⟨j, hj, rfl⟩ := List.getElem_of_mem hc
    exact Or.inr ⟨rfl, hs, fun j hj => ⟨by rw [hv _ (by omega), wide_lo _ _ _ hj], by rw [hv _ (by omega), wide_hi _ _ _ hj]⟩, j, hj, by
      have e : cs.getD j 0 = cs[j] := by simp [List.getD_eq_getElem?_getD, hj]
      show 255 < cs.getD j 0
      rw [e]; exact hw⟩
/-- an object of exactly java/lang/String, its two fields found: as the laws ask it -/
theorem strObj {Z U : State} {a0 : Array Value} {kI : Nat} (wi : (Jvm.Cond.instantiable ST kI).before a0 Z = true) (al : Z.vm.Alike U.vm) {x : Addr} {v0 c0 : Value} (E : RoadKit.Exa Z U.heap x ST) (V : RoadKit.Fld Z U.heap x ST "value" "[B" v0) (C : RoadKit.Fld Z U.heap x ST "coder" "B" c0) :
    ∃ (D : Cell) (fV fC : Field), Blank ST x D U ∧ Found ST "value" "[B" fV U ∧ Found ST "coder" "B" fC U ∧ D.slots[fV.slot]? = some v0 ∧ D.slots[fC.slot]? = some c0 ∧ RoadKit.slotOf Z ST "value" "[B" = fV.slot ∧ RoadKit.slotOf Z ST "coder" "B" = fC.slot := by
  obtain ⟨D, cfV, kV, iV, fV, hD, gV, stV, knV, obV, asV, slV⟩ := V
  obtain ⟨D', cfC, kC, iC, fC, hD', gC, stC, -, -, asC, slC⟩ := C
  cases hD.symm.trans hD'
  obtain ⟨D2, kD, e1, e2, e3, e4, e5⟩ := E
  cases hD.symm.trans e1
  obtain ⟨c2, k2, i1, i2, i3, -⟩ := Cond.instantiable_spec wi
  cases e2.symm.trans i1
  cases e3.symm.trans i2
  obtain ⟨kU, u1, u2⟩ := al.2.2 _ _ e3
  exact ⟨D, fV, fC, ⟨hD, ⟨knV, fun q hq => by rw [hq] at obV; cases obV⟩, by rw [al.findClass]; exact e2, kU, u1, by rw [u2]; exact i3, by rw [u2]; exact e5 i3⟩, ⟨SBG.found_only al ⟨cfV, kV, iV, gV⟩, stV⟩, ⟨SBG.found_only al ⟨cfC, kC, iC, gC⟩, stC⟩, slV, slC, by simp [RoadKit.slotOf, gV], by simp [RoadKit.slotOf, gC]⟩
theorem sta_is {Z U : State} (al : Z.vm.Alike U.vm) {C n d : String} {v : Value} (S : RoadKit.Sta Z U.heap C n d v) : StaticIs U C n d v := by
  obtain ⟨cfS, iS, kS, fS, st, cS, t1, t2, t3, t4, t5, t6, t7⟩ := S
  exact StaticIs.there (s := { Z with heap := U.heap }) ⟨cfS, iS, kS, fS, st, cS, t1, t2, t3, t4, t5, (fun q => by rw [q] at t6; cases t6), t7⟩ al rfl
/-- **length() OF SUCH A STRING** -/
theorem lenW {p : Program} {l : Launch} {e : Env} {R : Room} {s : State} {args : Array Value} {below : List Frame} {len W : Nat} {Z : State} {a0 : Array Value} {h : Heap} (hZ : Z.Warmed39 s.vm) (hw : ∀ d ∈ wordsLen, d.before a0 Z = true) {kI : Nat} (wi : (Jvm.Cond.instantiable ST kI).before a0 Z = true)
    {x t : Addr} {kb : ClassId} {cs : List Int32} {cd N2 z : Int32} {vs : List Value} (E : RoadKit.Exa Z h x ST) (V : RoadKit.Fld Z h x ST "value" "[B" (.ref t)) (C : RoadKit.Fld Z h x ST "coder" "B" (.int cd)) (K : RoadKit.Arv Z h t kb .byte N2 vs (.int 0)) (hc : CodA cs cd N2 vs) (hb : ∀ c ∈ cs, ¬ c < 0 ∧ ¬ (65535 : Int32) < c)
    (S : RoadKit.Sta Z h ST "COMPACT_STRINGS" "Z" (.int z)) (hz : ¬ z = 0) (l2 : cs.length ≤ 4000) (hfr : 2 ≤ R.frames) (hlo : W + 25 ≤ R.locals) :
    Back l R p e below s args (⟨"java/lang/String", "length", "()I"⟩ : MethodName) len W (fun P a => a = #[.ref x] ∧ P.U.heap = h ∧ P.cells + 0 ≤ R.cells ∧ P.slots + 0 ≤ R.slots)
      (fun P _ v B => ∃ L, (v = some (.int (Int32.ofNat cs.length)) ∧ L = [] ∧ B.U.heap = h) ∧ B.locs = P.locs ++ L ∧ B.cells = P.cells + 0 ∧ B.slots = P.slots + 0) := by
  obtain ⟨A, K1, K2, K3, K4, K5, K6⟩ := K
  have hcod := hc.cod (by omega) K3 K5
  intro m meth c P g ig mk a X hg hsize hdg hW hn hp'
  obtain ⟨rfl, rfl, r1, r2⟩ := hp'
  have al : Z.vm.Alike P.U.vm := hZ.alike.trans X.warmed.alike
  obtain ⟨D, fV, fC, hB, F1, F2, g1, g2, -, -⟩ := strObj wi al E V C
  have hx : Txt x t A cd cs.length (fun j => cs.getD j 0) P.U := ⟨⟨_, hB.2.2.1, D, hB.1, rfl, by cases q : D.vm <;> first | rfl | exact absurd q (hB.2.1.2 _)⟩, Has.of hB F1 g1, Has.of hB F2 g2, ⟨K1.1, State.isArrayOf_alike al K1.2.1, K1.2.2, by rcases hcod with ⟨-, q, -⟩ | ⟨-, q, -⟩ <;> omega⟩, hcod, fun j hj => by
    have e : cs.getD j 0 = cs[j] := by simp [List.getD_eq_getElem?_getD, hj]
    show ¬ cs.getD j 0 < 0 ∧ ¬ 65535 < cs.getD j 0
    rw [e]; exact hb _ (List.getElem_mem _)⟩
  obtain ⟨v, B, X', ⟨⟨hv, hh⟩, hl, hk, hs⟩, st⟩ := Len.pays x t A cd cs.length (fun j => cs.getD j 0) z (tabLen_of (movedLen hZ hw)) hfr hlo m meth c P g ig mk _ X hg hsize hdg hW hn ⟨r1, r2, rfl, hx, sta_is al S, hz⟩
  exact ⟨v, B, X', ⟨[], ⟨hv, rfl, hh⟩, hl, hk, hs⟩, st⟩
end StrChars.Road
namespace StrChars.Road
open Jvm Sem ClassFile Op Lib Jvm.Stand Jvm.Free Jvm.Free.XT
open Jvm.Lib.Cold (StaticIs)
/-- what backV says of its String, as the contracts of this text ask it: cs's low bytes, coder 0 -/
theorem codOf {cs : List Int32} {n : Nat} (hn : cs.length = n) (hb : ∀ c ∈ cs, ¬ 255 < c) : CodA cs 0 (Int32.ofNat n) ((cs.map lo8).map Value.int) := Or.inl ⟨rfl, by rw [hn], by simp [List.map_map, Function.comp_def], hb⟩
end StrChars.Road
end Jvm.Pilot.@@N@@

namespace Jvm.Pilot.@@N@@
open Jvm Jvm.ClassFile Sem Op Lib Jvm.Free Jvm.Stand Jvm.LawKit Jvm.RoadKit Bundle Jvm.Pilot.@@N@@.Jvm.D
namespace Ow
/-- from T with the top frame g the invocation comes to its end, and there Q holds -/
def Run (p : Program) (e : Env) (below : List Frame) (Q : Outcome → State → Prop) (T : State) (g : JFrame) : Prop :=
  ∃ s₂ o, Steps p.tables e below (T.setTop g) s₂ ∧ s₂.status = .running ∧ Ended s₂ below o ∧ Q o s₂
/-- x >>> y of a long -/
def ushJ (x : Int64) (y : Int32) : Int64 := (x.toUInt64 >>> (y &&& 0x3f).toInt64.toUInt64).toInt64
/-- what a walk that may intern keeps beside its Stand: nothing in it speaks of the state at hand but by its heap -/
def Rs (s : State) (m : MethodId) (Z : State) (EL : List (String × Nat)) (own : String) (h0 : Heap) (ws : List Addr) (vm0 : Vm) (k0 : Nat) (locs : List Loc) (h : Heap) (S : List Addr) : Prop :=
  s.Since vm0 k0 ∧ k0 ≤ h.size ∧ Z.Warmed39 vm0 ∧ vm0.findClass own = some m.cls ∧ CHr Z EL s.vm h0 vm0 h ∧ Fr Z.heap.size locs ∧ Keep h0 h ws ∧ Ext Z.heap h0 ∧ (∀ x ∈ ws, Z.heap.size ≤ x) ∧ ∀ x ∈ S, x < h.size ∧ Safe Z EL vm0 h x
/-- where a walk stands: its heap h, what it has made, and the addresses S that no constant books -/
def Wk (p : Program) (l : Launch) (e : Env) (R : Room) (s : State) (m : MethodId) (args : Array Value) (below : List Frame) (meth : Method) (c : Code) (Z : State) (EL : List (String × Nat)) (own : String) (h0 : Heap) (ws : List Addr)
    (T : State) (h : Heap) (cells slots : Nat) (S : List Addr) : Prop :=
  ∃ (vm0 : Vm) (k0 : Nat) (locs : List Loc), p.tables.exec = Jvm.exec ∧ Stand p l e R (s.setVm vm0) m args below meth c T locs cells slots ∧ T.heap = h ∧ Rs s m Z EL own h0 ws vm0 k0 locs h S
section Kit
variable {p : Program} {l : Launch} {e : Env} {R : Room} {s : State} {m : MethodId} {args : Array Value} {below : List Frame} {meth : Method} {c : Code} {Z : State} {a0 : Array Value} {EL : List (String × Nat)} {own : String} {h0 : Heap} {ws : List Addr} {T T' : State} {h h' hB : Heap} {cells slots : Nat} {S : List Addr} {Q : Outcome → State → Prop} {pc pc' pc1 pc2 : Nat} {Ls l' : Array Slot} {rest st : List Value} {vm0 : Vm} {k0 : Nat} {locs : List Loc} {g g' : JFrame}
theorem Run.to (f : ∀ t, Steps p.tables e below (T'.setTop g') t → Steps p.tables e below (T.setTop g) t) (k : Run p e below Q T' g') : Run p e below Q T g := by
  obtain ⟨a, b, q, r⟩ := k
  exact ⟨a, b, f _ q, r⟩
theorem Run.stp (f : Steps p.tables e below (T.setTop g) (T'.setTop g')) (k : Run p e below Q T' g') : Run p e below Q T g := Run.to (fun _ q => f.trans q) k
theorem Run.join {α : Type} {C : α → Prop} {F : α → JFrame} (k1 : ∀ a, C a → Run p e below Q T (F a)) (k2 : (∀ a, C a → Run p e below Q T (F a)) → Run p e below Q T g) : Run p e below Q T g := k2 k1
theorem Run.joinW (w : Wk p l e R s m args below meth c Z EL own h0 ws T h cells slots S) {α : Type} {C : α → Prop} {F : α → JFrame} (k1 : ∀ T' a, Wk p l e R s m args below meth c Z EL own h0 ws T' h cells slots S → C a → Run p e below Q T' (F a)) (k2 : (∀ T' a, Wk p l e R s m args below meth c Z EL own h0 ws T' h cells slots S → C a → Run p e below Q T' (F a)) → Run p e below Q T g) : Run p e below Q T g := k2 k1
theorem Run.cast (q : g = g') (k : Run p e below Q T g') : Run p e below Q T g := q ▸ k
theorem Rs.ch (r : Rs s m Z EL own h0 ws vm0 k0 locs h S) : CHv Z EL vm0 h := r.2.2.2.2.1.1
theorem Rs.hZ (r : Rs s m Z EL own h0 ws vm0 k0 locs h S) : Z.Warmed39 (s.setVm vm0).vm := r.2.2.1
theorem Rs.ow (r : Rs s m Z EL own h0 ws vm0 k0 locs h S) : (s.setVm vm0).vm.findClass own = some m.cls := r.2.2.2.1
theorem Rs.keep (r : Rs s m Z EL own h0 ws vm0 k0 locs h S) : Keep h0 h ws := r.2.2.2.2.2.2.1
theorem Rs.ext (r : Rs s m Z EL own h0 ws vm0 k0 locs h S) (E : Ext h h') : Rs s m Z EL own h0 ws vm0 k0 locs h' S := by
  obtain ⟨a1, a2, a3, a4, a5, a6, a7, a8, a9, a10⟩ := r
  exact ⟨a1, Nat.le_trans a2 E.1, a3, a4, a5.trans (CHr.ext E a5.1), a6, a7.ext E, a8, a9, fun x q => ⟨Nat.lt_of_lt_of_le (a10 x q).1 E.1, Safe.ext E a5.1 (a10 x q).2⟩⟩
theorem Rs.add (r : Rs s m Z EL own h0 ws vm0 k0 locs h S) (E : Ext h h') {x : Addr} (q1 : h.size ≤ x) (q2 : x < h'.size) : Rs s m Z EL own h0 ws vm0 k0 locs h' (x :: S) := by
  have r' := r.ext E
  obtain ⟨a1, a2, a3, a4, a5, a6, a7, a8, a9, a10⟩ := r'
  refine ⟨a1, a2, a3, a4, a5, a6, a7, a8, a9, fun y q => ?_⟩
  rcases List.mem_cons.mp q with rfl | q
  · exact ⟨q2, Safe.ext E r.ch (Safe.new q1)⟩
  · exact a10 y q
theorem Rs.wr (r : Rs s m Z EL own h0 ws vm0 k0 locs h S) {a : Addr} {sl : Nat} {v : Value} (W : Wr h h' a sl v) (Sa : Safe Z EL vm0 h a) (q : a ∈ ws ∨ h0.size ≤ a) : Rs s m Z EL own h0 ws vm0 k0 (locs ++ [⟨a, sl⟩]) h' S := by
  obtain ⟨a1, a2, a3, a4, a5, a6, a7, a8, a9, a10⟩ := r
  have hsz := W.size
  refine ⟨a1, by rw [hsz]; exact a2, a3, a4, a5.trans (CHr.wr W Sa a5.1), a6.app fun y hy => ?_, a7.wr W q, a8, a9, fun x z => ⟨by rw [hsz]; exact (a10 x z).1, Safe.wr W Sa a5.1 (a10 x z).2⟩⟩
  rw [List.mem_singleton.mp hy]
  rcases q with q | q
  · exact a9 _ q
  · exact Nat.le_trans a8.1 q
theorem Rs.sub (r : Rs s m Z EL own h0 ws vm0 k0 locs h S) {S' : List Addr} (q : ∀ x ∈ S', x ∈ S) : Rs s m Z EL own h0 ws vm0 k0 locs h S' := by
  obtain ⟨a1, a2, a3, a4, a5, a6, a7, a8, a9, a10⟩ := r
  exact ⟨a1, a2, a3, a4, a5, a6, a7, a8, a9, fun x z => a10 x (q x z)⟩
theorem Ext.rf (h : Heap) : Ext h h := ⟨Nat.le_refl _, fun _ _ q => q⟩
theorem Ext.tr {h2 : Heap} (E : Ext h h') (F : Ext h' h2) : Ext h h2 := ⟨Nat.le_trans E.1 F.1, fun x c q => F.2 x c (E.2 x c q)⟩
theorem Ext.wr' (E : Ext hB h) {a : Addr} {sl : Nat} {v : Value} (W : Wr h h' a sl v) (q : hB.size ≤ a) : Ext hB h' := by
  have hsz := W.size
  refine ⟨by rw [hsz]; exact E.1, fun x c z => ?_⟩
  obtain ⟨c0, -, -, -, rfl⟩ := W
  have hx := (Array.getElem?_eq_some_iff.mp z).1
  rw [Array.getElem?_setIfInBounds_ne (by omega)]
  exact E.2 x c z
theorem Ext.kp (E : Ext hB h) {vs : List Addr} (K : Keep h h' vs) (q : ∀ x ∈ vs, hB.size ≤ x) : Ext hB h' := by
  refine ⟨Nat.le_trans E.1 K.1, fun x c z => K.2.1 x c (E.2 x c z) fun hm => ?_⟩
  have hx := (Array.getElem?_eq_some_iff.mp z).1
  have := q x hm
  omega
theorem Keep.ext0 (K : Keep h h' []) : Ext h h' := ⟨K.1, fun x c q => K.2.1 x c q nin0⟩
theorem Wk.at (w : Wk p l e R s m args below meth c Z EL own h0 ws T h cells slots S) : At T m c below := by obtain ⟨_, _, _, -, X, -⟩ := w; exact X.here
theorem Wk.hx (w : Wk p l e R s m args below meth c Z EL own h0 ws T h cells slots S) : p.tables.exec = Jvm.exec := by obtain ⟨_, _, _, q, -⟩ := w; exact q
theorem Wk.keep (w : Wk p l e R s m args below meth c Z EL own h0 ws T h cells slots S) : Keep h0 h ws := by obtain ⟨_, _, _, -, -, -, r⟩ := w; exact r.keep
theorem Rs.old (r : Rs s m Z EL own h0 ws vm0 k0 locs h S) : Ext Z.heap h := Ext.kp r.2.2.2.2.2.2.2.1 r.keep r.2.2.2.2.2.2.2.2.1
theorem Wk.old (w : Wk p l e R s m args below meth c Z EL own h0 ws T h cells slots S) : Ext Z.heap h := by obtain ⟨_, _, _, -, -, -, r⟩ := w; exact r.old
theorem Wk.mono (w : Wk p l e R s m args below meth c Z EL own h0 ws T h cells slots S) {cells' slots' : Nat} (q1 : cells ≤ cells') (q2 : slots ≤ slots') : Wk p l e R s m args below meth c Z EL own h0 ws T h cells' slots' S := by
  obtain ⟨vm0, k0, locs, hx, X, r⟩ := w
  exact ⟨vm0, k0, locs, hx, X.mono q1 q2, r⟩
theorem Wk.sub (w : Wk p l e R s m args below meth c Z EL own h0 ws T h cells slots S) {S' : List Addr} (q : ∀ x ∈ S', x ∈ S) : Wk p l e R s m args below meth c Z EL own h0 ws T h cells slots S' := by
  obtain ⟨vm0, k0, locs, hx, X, eT, r⟩ := w
  exact ⟨vm0, k0, locs, hx, X, eT, r.sub q⟩
theorem s_iadd (w : Wk p l e R s m args below meth c Z EL own h0 ws T h cells slots S) {x y : Int32} (hd : decode c.code pc = .ok (.iadd, 1)) (hp : pc + 1 = pc') (k : Run p e below Q T (mkF m pc' Ls (.int (x + y) :: rest))) : Run p e below Q T (mkF m pc Ls (.int y :: .int x :: rest)) := by
  subst hp; exact Run.to (fun _ q => XS.iadd w.at w.hx rfl hd rfl q) k
theorem s_isub (w : Wk p l e R s m args below meth c Z EL own h0 ws T h cells slots S) {x y : Int32} (hd : decode c.code pc = .ok (.isub, 1)) (hp : pc + 1 = pc') (k : Run p e below Q T (mkF m pc' Ls (.int (x - y) :: rest))) : Run p e below Q T (mkF m pc Ls (.int y :: .int x :: rest)) := by
  subst hp; exact Run.to (fun _ q => XS.isub w.at w.hx rfl hd rfl q) k
theorem s_iand (w : Wk p l e R s m args below meth c Z EL own h0 ws T h cells slots S) {x y : Int32} (hd : decode c.code pc = .ok (.iand, 1)) (hp : pc + 1 = pc') (k : Run p e below Q T (mkF m pc' Ls (.int (x &&& y) :: rest))) : Run p e below Q T (mkF m pc Ls (.int y :: .int x :: rest)) := by
  subst hp; exact Run.to (fun _ q => XS.iand w.at w.hx rfl hd rfl q) k
theorem s_imul (w : Wk p l e R s m args below meth c Z EL own h0 ws T h cells slots S) {x y : Int32} (hd : decode c.code pc = .ok (.imul, 1)) (hp : pc + 1 = pc') (k : Run p e below Q T (mkF m pc' Ls (.int (x * y) :: rest))) : Run p e below Q T (mkF m pc Ls (.int y :: .int x :: rest)) := by
  subst hp; exact Run.to (fun _ q => XS.imul w.at w.hx rfl hd rfl q) k
theorem s_ixor (w : Wk p l e R s m args below meth c Z EL own h0 ws T h cells slots S) {x y : Int32} (hd : decode c.code pc = .ok (.ixor, 1)) (hp : pc + 1 = pc') (k : Run p e below Q T (mkF m pc' Ls (.int (x ^^^ y) :: rest))) : Run p e below Q T (mkF m pc Ls (.int y :: .int x :: rest)) := by
  subst hp; exact Run.to (fun _ q => XT.ixor w.at w.hx rfl hd rfl q) k
theorem s_ior (w : Wk p l e R s m args below meth c Z EL own h0 ws T h cells slots S) {x y : Int32} (hd : decode c.code pc = .ok (.ior, 1)) (hp : pc + 1 = pc') (k : Run p e below Q T (mkF m pc' Ls (.int (x ||| y) :: rest))) : Run p e below Q T (mkF m pc Ls (.int y :: .int x :: rest)) := by
  subst hp; exact Run.to (fun _ q => XT.ior w.at w.hx rfl hd rfl q) k
theorem s_ishl (w : Wk p l e R s m args below meth c Z EL own h0 ws T h cells slots S) {x y : Int32} (hd : decode c.code pc = .ok (.ishl, 1)) (hp : pc + 1 = pc') (k : Run p e below Q T (mkF m pc' Ls (.int (x <<< (y &&& 31)) :: rest))) : Run p e below Q T (mkF m pc Ls (.int y :: .int x :: rest)) := by
  subst hp; exact Run.to (fun _ q => XT.ishl w.at w.hx rfl hd rfl q) k
theorem s_ishr (w : Wk p l e R s m args below meth c Z EL own h0 ws T h cells slots S) {x y : Int32} (hd : decode c.code pc = .ok (.ishr, 1)) (hp : pc + 1 = pc') (k : Run p e below Q T (mkF m pc' Ls (.int (x >>> (y &&& 31)) :: rest))) : Run p e below Q T (mkF m pc Ls (.int y :: .int x :: rest)) := by
  subst hp; exact Run.to (fun _ q => XT.ishr w.at w.hx rfl hd rfl q) k
theorem s_iushr (w : Wk p l e R s m args below meth c Z EL own h0 ws T h cells slots S) {x y : Int32} (hd : decode c.code pc = .ok (.iushr, 1)) (hp : pc + 1 = pc') (k : Run p e below Q T (mkF m pc' Ls (.int (XT.ushr x y) :: rest))) : Run p e below Q T (mkF m pc Ls (.int y :: .int x :: rest)) := by
  subst hp; exact Run.to (fun _ q => XT.iushr w.at w.hx rfl hd rfl q) k
theorem s_irem (w : Wk p l e R s m args below meth c Z EL own h0 ws T h cells slots S) {x y : Int32} (hd : decode c.code pc = .ok (.irem, 1)) (hy : y ≠ 0) (hp : pc + 1 = pc') (k : Run p e below Q T (mkF m pc' Ls (.int (x % y) :: rest))) : Run p e below Q T (mkF m pc Ls (.int y :: .int x :: rest)) := by
  subst hp; obtain ⟨_, _, _, hx, X, -⟩ := w; exact Run.to (fun _ q => iremM X hx rfl hd rfl hy q) k
theorem s_idiv (w : Wk p l e R s m args below meth c Z EL own h0 ws T h cells slots S) {x y : Int32} (hd : decode c.code pc = .ok (.idiv, 1)) (hy : y ≠ 0) (hp : pc + 1 = pc') (k : Run p e below Q T (mkF m pc' Ls (.int (x / y) :: rest))) : Run p e below Q T (mkF m pc Ls (.int y :: .int x :: rest)) := by
  subst hp; exact Run.to (fun _ q => XS.idiv w.at w.hx rfl hd rfl hy q) k
theorem s_ladd (w : Wk p l e R s m args below meth c Z EL own h0 ws T h cells slots S) {x y : Int64} (hd : decode c.code pc = .ok (.ladd, 1)) (hp : pc + 1 = pc') (k : Run p e below Q T (mkF m pc' Ls (.long (x + y) :: rest))) : Run p e below Q T (mkF m pc Ls (.long y :: .long x :: rest)) := by
  subst hp; exact Run.to (fun _ q => XT.ladd w.at w.hx rfl hd rfl q) k
theorem s_lsub (w : Wk p l e R s m args below meth c Z EL own h0 ws T h cells slots S) {x y : Int64} (hd : decode c.code pc = .ok (.lsub, 1)) (hp : pc + 1 = pc') (k : Run p e below Q T (mkF m pc' Ls (.long (x - y) :: rest))) : Run p e below Q T (mkF m pc Ls (.long y :: .long x :: rest)) := by
  subst hp; exact Run.to (fun _ q => XT.lsub w.at w.hx rfl hd rfl q) k
theorem s_lmul (w : Wk p l e R s m args below meth c Z EL own h0 ws T h cells slots S) {x y : Int64} (hd : decode c.code pc = .ok (.lmul, 1)) (hp : pc + 1 = pc') (k : Run p e below Q T (mkF m pc' Ls (.long (x * y) :: rest))) : Run p e below Q T (mkF m pc Ls (.long y :: .long x :: rest)) := by
  subst hp; exact Run.to (fun _ q => XT.lmul w.at w.hx rfl hd rfl q) k
theorem s_land (w : Wk p l e R s m args below meth c Z EL own h0 ws T h cells slots S) {x y : Int64} (hd : decode c.code pc = .ok (.land, 1)) (hp : pc + 1 = pc') (k : Run p e below Q T (mkF m pc' Ls (.long (x &&& y) :: rest))) : Run p e below Q T (mkF m pc Ls (.long y :: .long x :: rest)) := by
  subst hp; exact Run.to (fun _ q => XT.land w.at w.hx rfl hd rfl q) k
theorem s_lor (w : Wk p l e R s m args below meth c Z EL own h0 ws T h cells slots S) {x y : Int64} (hd : decode c.code pc = .ok (.lor, 1)) (hp : pc + 1 = pc') (k : Run p e below Q T (mkF m pc' Ls (.long (x ||| y) :: rest))) : Run p e below Q T (mkF m pc Ls (.long y :: .long x :: rest)) := by
  subst hp; exact Run.to (fun _ q => XT.lor w.at w.hx rfl hd rfl q) k
theorem s_lxor (w : Wk p l e R s m args below meth c Z EL own h0 ws T h cells slots S) {x y : Int64} (hd : decode c.code pc = .ok (.lxor, 1)) (hp : pc + 1 = pc') (k : Run p e below Q T (mkF m pc' Ls (.long (x ^^^ y) :: rest))) : Run p e below Q T (mkF m pc Ls (.long y :: .long x :: rest)) := by
  subst hp; exact Run.to (fun _ q => XT.lxor w.at w.hx rfl hd rfl q) k
theorem s_lshl (w : Wk p l e R s m args below meth c Z EL own h0 ws T h cells slots S) {x : Int64} {y : Int32} (hd : decode c.code pc = .ok (.lshl, 1)) (hp : pc + 1 = pc') (k : Run p e below Q T (mkF m pc' Ls (.long (x <<< (y &&& 0x3f).toInt64) :: rest))) : Run p e below Q T (mkF m pc Ls (.int y :: .long x :: rest)) := by
  subst hp; exact Run.to (fun _ q => XS.lshl w.at w.hx rfl hd rfl q) k
theorem s_lshr (w : Wk p l e R s m args below meth c Z EL own h0 ws T h cells slots S) {x : Int64} {y : Int32} (hd : decode c.code pc = .ok (.lshr, 1)) (hp : pc + 1 = pc') (k : Run p e below Q T (mkF m pc' Ls (.long (x >>> (y &&& 0x3f).toInt64) :: rest))) : Run p e below Q T (mkF m pc Ls (.int y :: .long x :: rest)) := by
  subst hp; exact Run.to (fun _ q => XS.lshr w.at w.hx rfl hd rfl q) k
theorem s_lushr (w : Wk p l e R s m args below meth c Z EL own h0 ws T h cells slots S) {x : Int64} {y : Int32} (hd : decode c.code pc = .ok (.lushr, 1)) (hp : pc + 1 = pc') (k : Run p e below Q T (mkF m pc' Ls (.long (ushJ x y) :: rest))) : Run p e below Q T (mkF m pc Ls (.int y :: .long x :: rest)) := by
  subst hp; exact Run.to (fun _ q => XS.lushr w.at w.hx rfl hd rfl q) k
theorem s_lcmp (w : Wk p l e R s m args below meth c Z EL own h0 ws T h cells slots S) {x y : Int64} (hd : decode c.code pc = .ok (.lcmp, 1)) (hp : pc + 1 = pc') (k : Run p e below Q T (mkF m pc' Ls (.int (XT.cmpL x y) :: rest))) : Run p e below Q T (mkF m pc Ls (.long y :: .long x :: rest)) := by
  subst hp; exact Run.to (fun _ q => XT.lcmp w.at w.hx rfl hd rfl q) k
theorem s_ineg (w : Wk p l e R s m args below meth c Z EL own h0 ws T h cells slots S) {x : Int32} (hd : decode c.code pc = .ok (.ineg, 1)) (hp : pc + 1 = pc') (k : Run p e below Q T (mkF m pc' Ls (.int (-x) :: rest))) : Run p e below Q T (mkF m pc Ls (.int x :: rest)) := by
  subst hp; exact Run.to (fun _ q => XS.ineg w.at w.hx rfl hd rfl q) k
theorem s_i2l (w : Wk p l e R s m args below meth c Z EL own h0 ws T h cells slots S) {x : Int32} (hd : decode c.code pc = .ok (.i2l, 1)) (hp : pc + 1 = pc') (k : Run p e below Q T (mkF m pc' Ls (.long x.toInt64 :: rest))) : Run p e below Q T (mkF m pc Ls (.int x :: rest)) := by
  subst hp; exact Run.to (fun _ q => XT.i2l w.at w.hx rfl hd rfl q) k
theorem s_l2i (w : Wk p l e R s m args below meth c Z EL own h0 ws T h cells slots S) {x : Int64} (hd : decode c.code pc = .ok (.l2i, 1)) (hp : pc + 1 = pc') (k : Run p e below Q T (mkF m pc' Ls (.int x.toInt32 :: rest))) : Run p e below Q T (mkF m pc Ls (.long x :: rest)) := by
  subst hp; exact Run.to (fun _ q => XT.l2i w.at w.hx rfl hd rfl q) k
theorem s_i2b (w : Wk p l e R s m args below meth c Z EL own h0 ws T h cells slots S) {x : Int32} (hd : decode c.code pc = .ok (.i2b, 1)) (hp : pc + 1 = pc') (k : Run p e below Q T (mkF m pc' Ls (.int x.toInt8.toInt32 :: rest))) : Run p e below Q T (mkF m pc Ls (.int x :: rest)) := by
  subst hp; exact Run.to (fun _ q => XT.i2b w.at w.hx rfl hd rfl q) k
theorem s_i2s (w : Wk p l e R s m args below meth c Z EL own h0 ws T h cells slots S) {x : Int32} (hd : decode c.code pc = .ok (.i2s, 1)) (hp : pc + 1 = pc') (k : Run p e below Q T (mkF m pc' Ls (.int x.toInt16.toInt32 :: rest))) : Run p e below Q T (mkF m pc Ls (.int x :: rest)) := by
  subst hp; exact Run.to (fun _ q => XT.i2s w.at w.hx rfl hd rfl q) k
theorem s_i2c (w : Wk p l e R s m args below meth c Z EL own h0 ws T h cells slots S) {x : Int32} (hd : decode c.code pc = .ok (.i2c, 1)) (hp : pc + 1 = pc') (k : Run p e below Q T (mkF m pc' Ls (.int (nar .char x) :: rest))) : Run p e below Q T (mkF m pc Ls (.int x :: rest)) := by
  subst hp; exact Run.to (fun _ q => XT.i2c w.at w.hx rfl hd rfl q) k
theorem s_dup (w : Wk p l e R s m args below meth c Z EL own h0 ws T h cells slots S) {x : Value} (hd : decode c.code pc = .ok (.dup, 1)) (hc : x.category = 1) (hp : pc + 1 = pc') (k : Run p e below Q T (mkF m pc' Ls (x :: x :: rest))) : Run p e below Q T (mkF m pc Ls (x :: rest)) := by
  subst hp; exact Run.to (fun _ q => XS.dup w.at w.hx rfl hd rfl hc q) k
theorem s_pop (w : Wk p l e R s m args below meth c Z EL own h0 ws T h cells slots S) {x : Value} (hd : decode c.code pc = .ok (.pop, 1)) (hc : x.category = 1) (hp : pc + 1 = pc') (k : Run p e below Q T (mkF m pc' Ls rest)) : Run p e below Q T (mkF m pc Ls (x :: rest)) := by
  subst hp; exact Run.to (fun _ q => XT.pop w.at w.hx rfl hd rfl hc q) k
theorem s_dup_x1 (w : Wk p l e R s m args below meth c Z EL own h0 ws T h cells slots S) {x y : Value} (hd : decode c.code pc = .ok (.dup_x1, 1)) (hc : x.category = 1) (hc' : y.category = 1) (hp : pc + 1 = pc') (k : Run p e below Q T (mkF m pc' Ls (x :: y :: x :: rest))) : Run p e below Q T (mkF m pc Ls (x :: y :: rest)) := by
  subst hp; exact Run.to (fun _ q => XT.dupX1 w.at w.hx rfl hd rfl hc hc' q) k
theorem s_dup2 (w : Wk p l e R s m args below meth c Z EL own h0 ws T h cells slots S) {x y : Value} (hd : decode c.code pc = .ok (.dup2, 1)) (hc : x.category = 1) (hc' : y.category = 1) (hp : pc + 1 = pc') (k : Run p e below Q T (mkF m pc' Ls (x :: y :: x :: y :: rest))) : Run p e below Q T (mkF m pc Ls (x :: y :: rest)) := by
  subst hp; exact Run.to (fun _ q => XT.dup2 w.at w.hx rfl hd rfl hc hc' q) k
theorem s_iconst (w : Wk p l e R s m args below meth c Z EL own h0 ws T h cells slots S) {i : Int} {v : Int32} (hd : decode c.code pc = .ok (.iconst i, 1)) (hv : Int32.ofInt i = v) (hp : pc + 1 = pc') (k : Run p e below Q T (mkF m pc' Ls (.int v :: st))) : Run p e below Q T (mkF m pc Ls st) := by
  subst hp hv; exact Run.to (fun _ q => XS.iconst w.at w.hx rfl hd q) k
theorem s_bipush (w : Wk p l e R s m args below meth c Z EL own h0 ws T h cells slots S) {i : Int} {v : Int32} (hd : decode c.code pc = .ok (.bipush i, 2)) (hv : (Int8.ofInt i).toInt32 = v) (hp : pc + 2 = pc') (k : Run p e below Q T (mkF m pc' Ls (.int v :: st))) : Run p e below Q T (mkF m pc Ls st) := by
  subst hp hv; exact Run.to (fun _ q => XS.bipush w.at w.hx rfl hd q) k
theorem s_sipush (w : Wk p l e R s m args below meth c Z EL own h0 ws T h cells slots S) {i : Int} {v : Int32} (hd : decode c.code pc = .ok (.sipush i, 3)) (hv : (Int16.ofInt i).toInt32 = v) (hp : pc + 3 = pc') (k : Run p e below Q T (mkF m pc' Ls (.int v :: st))) : Run p e below Q T (mkF m pc Ls st) := by
  subst hp hv; exact Run.to (fun _ q => XS.sipush w.at w.hx rfl hd q) k
theorem s_lconst (w : Wk p l e R s m args below meth c Z EL own h0 ws T h cells slots S) {i : Fin 2} {v : Int64} (hd : decode c.code pc = .ok (.lconst i, 1)) (hv : Int64.ofNat i = v) (hp : pc + 1 = pc') (k : Run p e below Q T (mkF m pc' Ls (.long v :: st))) : Run p e below Q T (mkF m pc Ls st) := by
  subst hp hv; exact Run.to (fun _ q => XT.lconst w.at w.hx rfl hd q) k
theorem s_anull (w : Wk p l e R s m args below meth c Z EL own h0 ws T h cells slots S) (hd : decode c.code pc = .ok (.aconst_null, 1)) (hp : pc + 1 = pc') (k : Run p e below Q T (mkF m pc' Ls (.null :: st))) : Run p e below Q T (mkF m pc Ls st) := by
  subst hp; exact Run.to (fun _ q => XS.aconstNull w.at w.hx rfl hd q) k
theorem s_iload (w : Wk p l e R s m args below meth c Z EL own h0 ws T h cells slots S) {i : Nat} {v : Int32} (hd : decode c.code pc = .ok (.iload i, 2)) (hl : Ls[i]? = some (.val (.int v))) (hp : pc + 2 = pc') (k : Run p e below Q T (mkF m pc' Ls (.int v :: st))) : Run p e below Q T (mkF m pc Ls st) := by
  subst hp; exact Run.to (fun _ q => XS.iload w.at w.hx rfl hd hl q) k
theorem s_iload_n (w : Wk p l e R s m args below meth c Z EL own h0 ws T h cells slots S) {i : Fin 4} {v : Int32} (hd : decode c.code pc = .ok (.iload_n i, 1)) (hl : Ls[i.val]? = some (.val (.int v))) (hp : pc + 1 = pc') (k : Run p e below Q T (mkF m pc' Ls (.int v :: st))) : Run p e below Q T (mkF m pc Ls st) := by
  subst hp; exact Run.to (fun _ q => XS.iloadN w.at w.hx rfl hd hl q) k
theorem s_lload (w : Wk p l e R s m args below meth c Z EL own h0 ws T h cells slots S) {i : Nat} {v : Int64} (hd : decode c.code pc = .ok (.lload i, 2)) (hl : Ls[i]? = some (.val (.long v))) (hp : pc + 2 = pc') (k : Run p e below Q T (mkF m pc' Ls (.long v :: st))) : Run p e below Q T (mkF m pc Ls st) := by
  subst hp; exact Run.to (fun _ q => XT.lload w.at w.hx rfl hd hl q) k
theorem s_lload_n (w : Wk p l e R s m args below meth c Z EL own h0 ws T h cells slots S) {i : Fin 4} {v : Int64} (hd : decode c.code pc = .ok (.lload_n i, 1)) (hl : Ls[i.val]? = some (.val (.long v))) (hp : pc + 1 = pc') (k : Run p e below Q T (mkF m pc' Ls (.long v :: st))) : Run p e below Q T (mkF m pc Ls st) := by
  subst hp; exact Run.to (fun _ q => XT.lloadN w.at w.hx rfl hd hl q) k
theorem s_aload (w : Wk p l e R s m args below meth c Z EL own h0 ws T h cells slots S) {i : Nat} {v : Value} (hd : decode c.code pc = .ok (.aload i, 2)) (hl : Ls[i]? = some (.val v)) (hv : v.isRef = true) (hp : pc + 2 = pc') (k : Run p e below Q T (mkF m pc' Ls (v :: st))) : Run p e below Q T (mkF m pc Ls st) := by
  subst hp; exact Run.to (fun _ q => XS.aload w.at w.hx rfl hd hl hv q) k
theorem s_aload_n (w : Wk p l e R s m args below meth c Z EL own h0 ws T h cells slots S) {i : Fin 4} {v : Value} (hd : decode c.code pc = .ok (.aload_n i, 1)) (hl : Ls[i.val]? = some (.val v)) (hv : v.isRef = true) (hp : pc + 1 = pc') (k : Run p e below Q T (mkF m pc' Ls (v :: st))) : Run p e below Q T (mkF m pc Ls st) := by
  subst hp; exact Run.to (fun _ q => XS.aloadN w.at w.hx rfl hd hl hv q) k
theorem s_istore (w : Wk p l e R s m args below meth c Z EL own h0 ws T h cells slots S) {i : Nat} {v : Int32} (l' : Array Slot) (hd : decode c.code pc = .ok (.istore i, 2)) (hl : storeLocals Ls i (.int v) = some l') (hp : pc + 2 = pc') (k : Run p e below Q T (mkF m pc' l' st)) : Run p e below Q T (mkF m pc Ls (.int v :: st)) := by
  subst hp; exact Run.to (fun _ q => XS.istore w.at w.hx rfl hd rfl hl q) k
theorem s_istore_n (w : Wk p l e R s m args below meth c Z EL own h0 ws T h cells slots S) {i : Fin 4} {v : Int32} (l' : Array Slot) (hd : decode c.code pc = .ok (.istore_n i, 1)) (hl : storeLocals Ls i.val (.int v) = some l') (hp : pc + 1 = pc') (k : Run p e below Q T (mkF m pc' l' st)) : Run p e below Q T (mkF m pc Ls (.int v :: st)) := by
  subst hp; exact Run.to (fun _ q => XS.istoreN w.at w.hx rfl hd rfl hl q) k
theorem s_lstore (w : Wk p l e R s m args below meth c Z EL own h0 ws T h cells slots S) {i : Nat} {v : Int64} (l' : Array Slot) (hd : decode c.code pc = .ok (.lstore i, 2)) (hl : storeLocals Ls i (.long v) = some l') (hp : pc + 2 = pc') (k : Run p e below Q T (mkF m pc' l' st)) : Run p e below Q T (mkF m pc Ls (.long v :: st)) := by
  subst hp; exact Run.to (fun _ q => XT.lstore w.at w.hx rfl hd rfl hl q) k
theorem s_lstore_n (w : Wk p l e R s m args below meth c Z EL own h0 ws T h cells slots S) {i : Fin 4} {v : Int64} (l' : Array Slot) (hd : decode c.code pc = .ok (.lstore_n i, 1)) (hl : storeLocals Ls i.val (.long v) = some l') (hp : pc + 1 = pc') (k : Run p e below Q T (mkF m pc' l' st)) : Run p e below Q T (mkF m pc Ls (.long v :: st)) := by
  subst hp; exact Run.to (fun _ q => XT.lstoreN w.at w.hx rfl hd rfl hl q) k
theorem s_astore (w : Wk p l e R s m args below meth c Z EL own h0 ws T h cells slots S) {i : Nat} {v : Value} (l' : Array Slot) (hd : decode c.code pc = .ok (.astore i, 2)) (hv : v.isRef = true) (hl : storeLocals Ls i v = some l') (hp : pc + 2 = pc') (k : Run p e below Q T (mkF m pc' l' st)) : Run p e below Q T (mkF m pc Ls (v :: st)) := by
  subst hp; exact Run.to (fun _ q => XS.astore w.at w.hx rfl hd rfl hv hl q) k
theorem s_astore_n (w : Wk p l e R s m args below meth c Z EL own h0 ws T h cells slots S) {i : Fin 4} {v : Value} (l' : Array Slot) (hd : decode c.code pc = .ok (.astore_n i, 1)) (hv : v.isRef = true) (hl : storeLocals Ls i.val v = some l') (hp : pc + 1 = pc') (k : Run p e below Q T (mkF m pc' l' st)) : Run p e below Q T (mkF m pc Ls (v :: st)) := by
  subst hp; exact Run.to (fun _ q => XS.astoreN w.at w.hx rfl hd rfl hv hl q) k
theorem s_iinc (w : Wk p l e R s m args below meth c Z EL own h0 ws T h cells slots S) {i : Nat} {cst : Int} {x v : Int32} (l' : Array Slot) (hd : decode c.code pc = .ok (.iinc i cst, 3)) (hv : Int32.ofInt cst = v) (hl : Ls[i]? = some (.val (.int x))) (hl' : storeLocals Ls i (.int (x + v)) = some l') (hp : pc + 3 = pc') (k : Run p e below Q T (mkF m pc' l' st)) : Run p e below Q T (mkF m pc Ls st) := by
  subst hp; exact Run.to (fun _ q => XT.iincV w.at w.hx rfl v hd hv hl hl' q) k
theorem s_goto (w : Wk p l e R s m args below meth c Z EL own h0 ws T h cells slots S) {o : Int} (hd : decode c.code pc = .ok (.goto o, 3)) (ho : 0 ≤ (pc : Int) + o) (hp : ((pc : Int) + o).toNat = pc') (k : Run p e below Q T (mkF m pc' Ls st)) : Run p e below Q T (mkF m pc Ls st) := by
  exact Run.to (fun _ q => XS.goto w.at w.hx rfl (pc0 := pc) rfl hd ho hp q) k
theorem s_icmp_eq (w : Wk p l e R s m args below meth c Z EL own h0 ws T h cells slots S) {x y : Int32} {o : Int} (hd : decode c.code pc = .ok (.if_icmp .eq o, 3)) (ho : 0 ≤ (pc : Int) + o) (h1 : pc + 3 = pc1) (h2 : ((pc : Int) + o).toNat = pc2) (k1 : ¬ (x = y) → Run p e below Q T (mkF m pc1 Ls rest)) (k2 : x = y → Run p e below Q T (mkF m pc2 Ls rest)) : Run p e below Q T (mkF m pc Ls (.int y :: .int x :: rest)) := by
  subst h1
  by_cases cq : x = y
  · exact Run.to (fun _ q => XS.icmpYes w.at w.hx rfl (pc0 := pc) rfl hd rfl (XT.ii_eq_t cq) ho h2 q) (k2 cq)
  · exact Run.to (fun _ q => XS.icmpNo w.at w.hx rfl hd rfl (XT.ii_eq_f cq) q) (k1 cq)
theorem s_icmp_ne (w : Wk p l e R s m args below meth c Z EL own h0 ws T h cells slots S) {x y : Int32} {o : Int} (hd : decode c.code pc = .ok (.if_icmp .ne o, 3)) (ho : 0 ≤ (pc : Int) + o) (h1 : pc + 3 = pc1) (h2 : ((pc : Int) + o).toNat = pc2) (k1 : x = y → Run p e below Q T (mkF m pc1 Ls rest)) (k2 : ¬ (x = y) → Run p e below Q T (mkF m pc2 Ls rest)) : Run p e below Q T (mkF m pc Ls (.int y :: .int x :: rest)) := by
  subst h1
  by_cases cq : x = y
  · exact Run.to (fun _ q => XS.icmpNo w.at w.hx rfl hd rfl (XT.ii_ne_f cq) q) (k1 cq)
  · exact Run.to (fun _ q => XS.icmpYes w.at w.hx rfl (pc0 := pc) rfl hd rfl (XT.ii_ne_t cq) ho h2 q) (k2 cq)
theorem s_icmp_lt (w : Wk p l e R s m args below meth c Z EL own h0 ws T h cells slots S) {x y : Int32} {o : Int} (hd : decode c.code pc = .ok (.if_icmp .lt o, 3)) (ho : 0 ≤ (pc : Int) + o) (h1 : pc + 3 = pc1) (h2 : ((pc : Int) + o).toNat = pc2) (k1 : ¬ (x < y) → Run p e below Q T (mkF m pc1 Ls rest)) (k2 : x < y → Run p e below Q T (mkF m pc2 Ls rest)) : Run p e below Q T (mkF m pc Ls (.int y :: .int x :: rest)) := by
  subst h1
  by_cases cq : x < y
  · exact Run.to (fun _ q => XS.icmpYes w.at w.hx rfl (pc0 := pc) rfl hd rfl (XT.ii_lt_t cq) ho h2 q) (k2 cq)
  · exact Run.to (fun _ q => XS.icmpNo w.at w.hx rfl hd rfl (XT.ii_lt_f cq) q) (k1 cq)
theorem s_icmp_ge (w : Wk p l e R s m args below meth c Z EL own h0 ws T h cells slots S) {x y : Int32} {o : Int} (hd : decode c.code pc = .ok (.if_icmp .ge o, 3)) (ho : 0 ≤ (pc : Int) + o) (h1 : pc + 3 = pc1) (h2 : ((pc : Int) + o).toNat = pc2) (k1 : x < y → Run p e below Q T (mkF m pc1 Ls rest)) (k2 : ¬ (x < y) → Run p e below Q T (mkF m pc2 Ls rest)) : Run p e below Q T (mkF m pc Ls (.int y :: .int x :: rest)) := by
  subst h1
  by_cases cq : x < y
  · exact Run.to (fun _ q => XS.icmpNo w.at w.hx rfl hd rfl (XT.ii_ge_f cq) q) (k1 cq)
  · exact Run.to (fun _ q => XS.icmpYes w.at w.hx rfl (pc0 := pc) rfl hd rfl (XT.ii_ge_t cq) ho h2 q) (k2 cq)
theorem s_icmp_gt (w : Wk p l e R s m args below meth c Z EL own h0 ws T h cells slots S) {x y : Int32} {o : Int} (hd : decode c.code pc = .ok (.if_icmp .gt o, 3)) (ho : 0 ≤ (pc : Int) + o) (h1 : pc + 3 = pc1) (h2 : ((pc : Int) + o).toNat = pc2) (k1 : ¬ (y < x) → Run p e below Q T (mkF m pc1 Ls rest)) (k2 : y < x → Run p e below Q T (mkF m pc2 Ls rest)) : Run p e below Q T (mkF m pc Ls (.int y :: .int x :: rest)) := by
  subst h1
  by_cases cq : y < x
  · exact Run.to (fun _ q => XS.icmpYes w.at w.hx rfl (pc0 := pc) rfl hd rfl (XT.ii_gt_t cq) ho h2 q) (k2 cq)
  · exact Run.to (fun _ q => XS.icmpNo w.at w.hx rfl hd rfl (XT.ii_gt_f cq) q) (k1 cq)
theorem s_icmp_le (w : Wk p l e R s m args below meth c Z EL own h0 ws T h cells slots S) {x y : Int32} {o : Int} (hd : decode c.code pc = .ok (.if_icmp .le o, 3)) (ho : 0 ≤ (pc : Int) + o) (h1 : pc + 3 = pc1) (h2 : ((pc : Int) + o).toNat = pc2) (k1 : y < x → Run p e below Q T (mkF m pc1 Ls rest)) (k2 : ¬ (y < x) → Run p e below Q T (mkF m pc2 Ls rest)) : Run p e below Q T (mkF m pc Ls (.int y :: .int x :: rest)) := by
  subst h1
  by_cases cq : y < x
  · exact Run.to (fun _ q => XS.icmpNo w.at w.hx rfl hd rfl (XT.ii_le_f cq) q) (k1 cq)
  · exact Run.to (fun _ q => XS.icmpYes w.at w.hx rfl (pc0 := pc) rfl hd rfl (XT.ii_le_t cq) ho h2 q) (k2 cq)
theorem s_if_eq (w : Wk p l e R s m args below meth c Z EL own h0 ws T h cells slots S) {x : Int32} {o : Int} (hd : decode c.code pc = .ok (.ifCond .eq o, 3)) (ho : 0 ≤ (pc : Int) + o) (h1 : pc + 3 = pc1) (h2 : ((pc : Int) + o).toNat = pc2) (k1 : ¬ (x = 0) → Run p e below Q T (mkF m pc1 Ls rest)) (k2 : x = 0 → Run p e below Q T (mkF m pc2 Ls rest)) : Run p e below Q T (mkF m pc Ls (.int x :: rest)) := by
  subst h1
  by_cases cq : x = 0
  · exact Run.to (fun _ q => XS.ifYes w.at w.hx rfl (pc0 := pc) rfl hd rfl (XT.i0_eq_t cq) ho h2 q) (k2 cq)
  · exact Run.to (fun _ q => XS.ifNo w.at w.hx rfl hd rfl (XT.i0_eq_f cq) q) (k1 cq)
theorem s_if_ne (w : Wk p l e R s m args below meth c Z EL own h0 ws T h cells slots S) {x : Int32} {o : Int} (hd : decode c.code pc = .ok (.ifCond .ne o, 3)) (ho : 0 ≤ (pc : Int) + o) (h1 : pc + 3 = pc1) (h2 : ((pc : Int) + o).toNat = pc2) (k1 : x = 0 → Run p e below Q T (mkF m pc1 Ls rest)) (k2 : ¬ (x = 0) → Run p e below Q T (mkF m pc2 Ls rest)) : Run p e below Q T (mkF m pc Ls (.int x :: rest)) := by
  subst h1
  by_cases cq : x = 0
  · exact Run.to (fun _ q => XS.ifNo w.at w.hx rfl hd rfl (XT.i0_ne_f cq) q) (k1 cq)
  · exact Run.to (fun _ q => XS.ifYes w.at w.hx rfl (pc0 := pc) rfl hd rfl (XT.i0_ne_t cq) ho h2 q) (k2 cq)
theorem s_if_lt (w : Wk p l e R s m args below meth c Z EL own h0 ws T h cells slots S) {x : Int32} {o : Int} (hd : decode c.code pc = .ok (.ifCond .lt o, 3)) (ho : 0 ≤ (pc : Int) + o) (h1 : pc + 3 = pc1) (h2 : ((pc : Int) + o).toNat = pc2) (k1 : ¬ (x < 0) → Run p e below Q T (mkF m pc1 Ls rest)) (k2 : x < 0 → Run p e below Q T (mkF m pc2 Ls rest)) : Run p e below Q T (mkF m pc Ls (.int x :: rest)) := by
  subst h1
  by_cases cq : x < 0
  · exact Run.to (fun _ q => XS.ifYes w.at w.hx rfl (pc0 := pc) rfl hd rfl (XT.i0_lt_t cq) ho h2 q) (k2 cq)
  · exact Run.to (fun _ q => XS.ifNo w.at w.hx rfl hd rfl (XT.i0_lt_f cq) q) (k1 cq)
theorem s_if_ge (w : Wk p l e R s m args below meth c Z EL own h0 ws T h cells slots S) {x : Int32} {o : Int} (hd : decode c.code pc = .ok (.ifCond .ge o, 3)) (ho : 0 ≤ (pc : Int) + o) (h1 : pc + 3 = pc1) (h2 : ((pc : Int) + o).toNat = pc2) (k1 : x < 0 → Run p e below Q T (mkF m pc1 Ls rest)) (k2 : ¬ (x < 0) → Run p e below Q T (mkF m pc2 Ls rest)) : Run p e below Q T (mkF m pc Ls (.int x :: rest)) := by
  subst h1
  by_cases cq : x < 0
  · exact Run.to (fun _ q => XS.ifNo w.at w.hx rfl hd rfl (XT.i0_ge_f cq) q) (k1 cq)
  · exact Run.to (fun _ q => XS.ifYes w.at w.hx rfl (pc0 := pc) rfl hd rfl (XT.i0_ge_t cq) ho h2 q) (k2 cq)
theorem s_if_gt (w : Wk p l e R s m args below meth c Z EL own h0 ws T h cells slots S) {x : Int32} {o : Int} (hd : decode c.code pc = .ok (.ifCond .gt o, 3)) (ho : 0 ≤ (pc : Int) + o) (h1 : pc + 3 = pc1) (h2 : ((pc : Int) + o).toNat = pc2) (k1 : ¬ (0 < x) → Run p e below Q T (mkF m pc1 Ls rest)) (k2 : 0 < x → Run p e below Q T (mkF m pc2 Ls rest)) : Run p e below Q T (mkF m pc Ls (.int x :: rest)) := by
  subst h1
  by_cases cq : 0 < x
  · exact Run.to (fun _ q => XS.ifYes w.at w.hx rfl (pc0 := pc) rfl hd rfl (XT.i0_gt_t cq) ho h2 q) (k2 cq)
  · exact Run.to (fun _ q => XS.ifNo w.at w.hx rfl hd rfl (XT.i0_gt_f cq) q) (k1 cq)
theorem s_if_le (w : Wk p l e R s m args below meth c Z EL own h0 ws T h cells slots S) {x : Int32} {o : Int} (hd : decode c.code pc = .ok (.ifCond .le o, 3)) (ho : 0 ≤ (pc : Int) + o) (h1 : pc + 3 = pc1) (h2 : ((pc : Int) + o).toNat = pc2) (k1 : 0 < x → Run p e below Q T (mkF m pc1 Ls rest)) (k2 : ¬ (0 < x) → Run p e below Q T (mkF m pc2 Ls rest)) : Run p e below Q T (mkF m pc Ls (.int x :: rest)) := by
  subst h1
  by_cases cq : 0 < x
  · exact Run.to (fun _ q => XS.ifNo w.at w.hx rfl hd rfl (XT.i0_le_f cq) q) (k1 cq)
  · exact Run.to (fun _ q => XS.ifYes w.at w.hx rfl (pc0 := pc) rfl hd rfl (XT.i0_le_t cq) ho h2 q) (k2 cq)
theorem s_lif_eq (w : Wk p l e R s m args below meth c Z EL own h0 ws T h cells slots S) {x y : Int64} {o : Int} (hd : decode c.code pc = .ok (.ifCond .eq o, 3)) (ho : 0 ≤ (pc : Int) + o) (h1 : pc + 3 = pc1) (h2 : ((pc : Int) + o).toNat = pc2) (k1 : ¬ (x = y) → Run p e below Q T (mkF m pc1 Ls rest)) (k2 : x = y → Run p e below Q T (mkF m pc2 Ls rest)) : Run p e below Q T (mkF m pc Ls (.int (XT.cmpL x y) :: rest)) := by
  subst h1
  by_cases cq : x = y
  · exact Run.to (fun _ q => XS.ifYes w.at w.hx rfl (pc0 := pc) rfl hd rfl (XT.ll_eq_t cq) ho h2 q) (k2 cq)
  · exact Run.to (fun _ q => XS.ifNo w.at w.hx rfl hd rfl (XT.ll_eq_f cq) q) (k1 cq)
theorem s_lif_ne (w : Wk p l e R s m args below meth c Z EL own h0 ws T h cells slots S) {x y : Int64} {o : Int} (hd : decode c.code pc = .ok (.ifCond .ne o, 3)) (ho : 0 ≤ (pc : Int) + o) (h1 : pc + 3 = pc1) (h2 : ((pc : Int) + o).toNat = pc2) (k1 : x = y → Run p e below Q T (mkF m pc1 Ls rest)) (k2 : ¬ (x = y) → Run p e below Q T (mkF m pc2 Ls rest)) : Run p e below Q T (mkF m pc Ls (.int (XT.cmpL x y) :: rest)) := by
  subst h1
  by_cases cq : x = y
  · exact Run.to (fun _ q => XS.ifNo w.at w.hx rfl hd rfl (XT.ll_ne_f cq) q) (k1 cq)
  · exact Run.to (fun _ q => XS.ifYes w.at w.hx rfl (pc0 := pc) rfl hd rfl (XT.ll_ne_t cq) ho h2 q) (k2 cq)
theorem s_lif_lt (w : Wk p l e R s m args below meth c Z EL own h0 ws T h cells slots S) {x y : Int64} {o : Int} (hd : decode c.code pc = .ok (.ifCond .lt o, 3)) (ho : 0 ≤ (pc : Int) + o) (h1 : pc + 3 = pc1) (h2 : ((pc : Int) + o).toNat = pc2) (k1 : ¬ (x < y) → Run p e below Q T (mkF m pc1 Ls rest)) (k2 : x < y → Run p e below Q T (mkF m pc2 Ls rest)) : Run p e below Q T (mkF m pc Ls (.int (XT.cmpL x y) :: rest)) := by
  subst h1
  by_cases cq : x < y
  · exact Run.to (fun _ q => XS.ifYes w.at w.hx rfl (pc0 := pc) rfl hd rfl (XT.ll_lt_t cq) ho h2 q) (k2 cq)
  · exact Run.to (fun _ q => XS.ifNo w.at w.hx rfl hd rfl (XT.ll_lt_f cq) q) (k1 cq)
theorem s_lif_ge (w : Wk p l e R s m args below meth c Z EL own h0 ws T h cells slots S) {x y : Int64} {o : Int} (hd : decode c.code pc = .ok (.ifCond .ge o, 3)) (ho : 0 ≤ (pc : Int) + o) (h1 : pc + 3 = pc1) (h2 : ((pc : Int) + o).toNat = pc2) (k1 : x < y → Run p e below Q T (mkF m pc1 Ls rest)) (k2 : ¬ (x < y) → Run p e below Q T (mkF m pc2 Ls rest)) : Run p e below Q T (mkF m pc Ls (.int (XT.cmpL x y) :: rest)) := by
  subst h1
  by_cases cq : x < y
  · exact Run.to (fun _ q => XS.ifNo w.at w.hx rfl hd rfl (XT.ll_ge_f cq) q) (k1 cq)
  · exact Run.to (fun _ q => XS.ifYes w.at w.hx rfl (pc0 := pc) rfl hd rfl (XT.ll_ge_t cq) ho h2 q) (k2 cq)
theorem s_lif_gt (w : Wk p l e R s m args below meth c Z EL own h0 ws T h cells slots S) {x y : Int64} {o : Int} (hd : decode c.code pc = .ok (.ifCond .gt o, 3)) (ho : 0 ≤ (pc : Int) + o) (h1 : pc + 3 = pc1) (h2 : ((pc : Int) + o).toNat = pc2) (k1 : ¬ (y < x) → Run p e below Q T (mkF m pc1 Ls rest)) (k2 : y < x → Run p e below Q T (mkF m pc2 Ls rest)) : Run p e below Q T (mkF m pc Ls (.int (XT.cmpL x y) :: rest)) := by
  subst h1
  by_cases cq : y < x
  · exact Run.to (fun _ q => XS.ifYes w.at w.hx rfl (pc0 := pc) rfl hd rfl (XT.ll_gt_t cq) ho h2 q) (k2 cq)
  · exact Run.to (fun _ q => XS.ifNo w.at w.hx rfl hd rfl (XT.ll_gt_f cq) q) (k1 cq)
theorem s_lif_le (w : Wk p l e R s m args below meth c Z EL own h0 ws T h cells slots S) {x y : Int64} {o : Int} (hd : decode c.code pc = .ok (.ifCond .le o, 3)) (ho : 0 ≤ (pc : Int) + o) (h1 : pc + 3 = pc1) (h2 : ((pc : Int) + o).toNat = pc2) (k1 : y < x → Run p e below Q T (mkF m pc1 Ls rest)) (k2 : ¬ (y < x) → Run p e below Q T (mkF m pc2 Ls rest)) : Run p e below Q T (mkF m pc Ls (.int (XT.cmpL x y) :: rest)) := by
  subst h1
  by_cases cq : y < x
  · exact Run.to (fun _ q => XS.ifNo w.at w.hx rfl hd rfl (XT.ll_le_f cq) q) (k1 cq)
  · exact Run.to (fun _ q => XS.ifYes w.at w.hx rfl (pc0 := pc) rfl hd rfl (XT.ll_le_t cq) ho h2 q) (k2 cq)
theorem s_acmp_eq (w : Wk p l e R s m args below meth c Z EL own h0 ws T h cells slots S) {x y : Value} {o : Int} (hd : decode c.code pc = .ok (.if_acmp .eq o, 3)) (hx' : x.isRef = true) (hy' : y.isRef = true) (ho : 0 ≤ (pc : Int) + o) (h1 : pc + 3 = pc1) (h2 : ((pc : Int) + o).toNat = pc2) (k1 : ¬ (x = y) → Run p e below Q T (mkF m pc1 Ls rest)) (k2 : x = y → Run p e below Q T (mkF m pc2 Ls rest)) : Run p e below Q T (mkF m pc Ls (y :: x :: rest)) := by
  subst h1
  by_cases cq : x = y
  · exact Run.to (fun _ q => XT.acmpYes w.at w.hx rfl (pc0 := pc) rfl hd rfl hx' hy' (XT.aa_eq_t cq) ho h2 q) (k2 cq)
  · exact Run.to (fun _ q => XT.acmpNo w.at w.hx rfl hd rfl hx' hy' (XT.aa_eq_f cq) q) (k1 cq)
theorem s_acmp_ne (w : Wk p l e R s m args below meth c Z EL own h0 ws T h cells slots S) {x y : Value} {o : Int} (hd : decode c.code pc = .ok (.if_acmp .ne o, 3)) (hx' : x.isRef = true) (hy' : y.isRef = true) (ho : 0 ≤ (pc : Int) + o) (h1 : pc + 3 = pc1) (h2 : ((pc : Int) + o).toNat = pc2) (k1 : x = y → Run p e below Q T (mkF m pc1 Ls rest)) (k2 : ¬ (x = y) → Run p e below Q T (mkF m pc2 Ls rest)) : Run p e below Q T (mkF m pc Ls (y :: x :: rest)) := by
  subst h1
  by_cases cq : x = y
  · exact Run.to (fun _ q => XT.acmpNo w.at w.hx rfl hd rfl hx' hy' (XT.aa_ne_f cq) q) (k1 cq)
  · exact Run.to (fun _ q => XT.acmpYes w.at w.hx rfl (pc0 := pc) rfl hd rfl hx' hy' (XT.aa_ne_t cq) ho h2 q) (k2 cq)
theorem s_ifnull_no (w : Wk p l e R s m args below meth c Z EL own h0 ws T h cells slots S) {b : Addr} {o : Int} (hd : decode c.code pc = .ok (.ifnull o, 3)) (hp : pc + 3 = pc') (k : Run p e below Q T (mkF m pc' Ls rest)) : Run p e below Q T (mkF m pc Ls (.ref b :: rest)) := by
  subst hp; exact Run.to (fun _ q => XS.ifnullNo w.at w.hx rfl hd rfl q) k
theorem s_ifnull_yes (w : Wk p l e R s m args below meth c Z EL own h0 ws T h cells slots S) {o : Int} (hd : decode c.code pc = .ok (.ifnull o, 3)) (ho : 0 ≤ (pc : Int) + o) (hp : ((pc : Int) + o).toNat = pc') (k : Run p e below Q T (mkF m pc' Ls rest)) : Run p e below Q T (mkF m pc Ls (.null :: rest)) :=
  Run.to (fun _ q => XS.ifnullYes w.at w.hx rfl (pc0 := pc) rfl hd rfl ho hp q) k
theorem s_ifnonnull_yes (w : Wk p l e R s m args below meth c Z EL own h0 ws T h cells slots S) {b : Addr} {o : Int} (hd : decode c.code pc = .ok (.ifnonnull o, 3)) (ho : 0 ≤ (pc : Int) + o) (hp : ((pc : Int) + o).toNat = pc') (k : Run p e below Q T (mkF m pc' Ls rest)) : Run p e below Q T (mkF m pc Ls (.ref b :: rest)) :=
  Run.to (fun _ q => XT.ifnonnullYes w.at w.hx rfl (pc0 := pc) rfl hd rfl ho hp q) k
theorem s_ifnonnull_no (w : Wk p l e R s m args below meth c Z EL own h0 ws T h cells slots S) {o : Int} (hd : decode c.code pc = .ok (.ifnonnull o, 3)) (hp : pc + 3 = pc') (k : Run p e below Q T (mkF m pc' Ls rest)) : Run p e below Q T (mkF m pc Ls (.null :: rest)) := by
  subst hp; exact Run.to (fun _ q => XT.ifnonnullNo w.at w.hx rfl hd rfl q) k


/-! steps that read the tables or the heap -/
theorem w_getF (w : Wk p l e R s m args below meth c Z EL own h0 ws T h cells slots S) {R0 O n d : String} {index : Nat} (wl : (Jvm.Cond.fieldLink own index R0 n d).before a0 Z = true) (via : Via Z R0 O n d) {a : Addr} {v : Value} (F : Fld Z h a O n d v) (hd : decode c.code pc = .ok (.getfield index, 3)) (hp : pc + 3 = pc')
    (k : ∀ T', Wk p l e R s m args below meth c Z EL own h0 ws T' h cells slots S → Run p e below Q T' (mkF m pc' Ls (v :: rest))) : Run p e below Q T (mkF m pc Ls (.ref a :: rest)) := by
  obtain ⟨vm0, k0, locs, hx, X, eT, r⟩ := w
  obtain ⟨T', X', e', stp⟩ := getF X hx r.hZ (host := "") r.ow (Or.inl wl) via eT F (g := mkF m pc Ls (.ref a :: rest)) rfl rfl hd
  subst hp
  exact Run.to stp (k T' ⟨vm0, k0, locs, hx, X', e', r⟩)
theorem w_getS (w : Wk p l e R s m args below meth c Z EL own h0 ws T h cells slots S) {R0 O n d : String} {index : Nat} (wl : (Jvm.Cond.fieldLink own index R0 n d).before a0 Z = true) (via : Via Z R0 O n d) {v : Value} (F : Sta Z h O n d v) (hd : decode c.code pc = .ok (.getstatic index, 3)) (hp : pc + 3 = pc')
    (k : ∀ T', Wk p l e R s m args below meth c Z EL own h0 ws T' h cells slots S → Run p e below Q T' (mkF m pc' Ls (v :: st))) : Run p e below Q T (mkF m pc Ls st) := by
  obtain ⟨vm0, k0, locs, hx, X, eT, r⟩ := w
  obtain ⟨T', X', e', stp⟩ := getS (host := "") X hx r.hZ r.ow wl via eT F (g := mkF m pc Ls st) rfl hd
  subst hp
  exact Run.to stp (k T' ⟨vm0, k0, locs, hx, X', e', r⟩)
theorem w_cast (w : Wk p l e R s m args below meth c Z EL own h0 ws T h cells slots S) {K : String} {index : Nat} (wl : (Jvm.Cond.classLink own index K).before a0 Z = true) {a : Addr} (F : Ins Z h a K true) (hd : decode c.code pc = .ok (.checkcast index, 3)) (hp : pc + 3 = pc')
    (k : ∀ T', Wk p l e R s m args below meth c Z EL own h0 ws T' h cells slots S → Run p e below Q T' (mkF m pc' Ls (.ref a :: rest))) : Run p e below Q T (mkF m pc Ls (.ref a :: rest)) := by
  obtain ⟨vm0, k0, locs, hx, X, eT, r⟩ := w
  obtain ⟨T', X', e', stp⟩ := castY X hx r.hZ r.ow wl eT F (g := mkF m pc Ls (.ref a :: rest)) rfl rfl hd
  subst hp
  exact Run.to stp (k T' ⟨vm0, k0, locs, hx, X', e', r⟩)
theorem w_inst (w : Wk p l e R s m args below meth c Z EL own h0 ws T h cells slots S) {K : String} {index : Nat} (wl : (Jvm.Cond.classLink own index K).before a0 Z = true) {a : Addr} (F : Ins Z h a K true) (hd : decode c.code pc = .ok (.instanceof index, 3)) (hp : pc + 3 = pc')
    (k : ∀ T', Wk p l e R s m args below meth c Z EL own h0 ws T' h cells slots S → Run p e below Q T' (mkF m pc' Ls (.int 1 :: rest))) : Run p e below Q T (mkF m pc Ls (.ref a :: rest)) := by
  obtain ⟨vm0, k0, locs, hx, X, eT, r⟩ := w
  obtain ⟨T', X', e', stp⟩ := instY X hx r.hZ r.ow wl eT F (g := mkF m pc Ls (.ref a :: rest)) rfl rfl hd
  subst hp
  exact Run.to stp (k T' ⟨vm0, k0, locs, hx, X', e', r⟩)
theorem w_instNo (w : Wk p l e R s m args below meth c Z EL own h0 ws T h cells slots S) {K C : String} {index : Nat} (wl : (Jvm.Cond.classLink own index K).before a0 Z = true) {a : Addr} (E : Exa Z h a C) (F : ∃ c t, Z.vm.findClass C = some c ∧ Z.vm.findClass K = some t ∧ Z.vm.assignable c t = false) (hd : decode c.code pc = .ok (.instanceof index, 3)) (hp : pc + 3 = pc')
    (k : ∀ T', Wk p l e R s m args below meth c Z EL own h0 ws T' h cells slots S → Run p e below Q T' (mkF m pc' Ls (.int 0 :: rest))) : Run p e below Q T (mkF m pc Ls (.ref a :: rest)) := by
  obtain ⟨vm0, k0, locs, hx, X, eT, r⟩ := w
  obtain ⟨T', X', e', stp⟩ := instNo X hx r.hZ r.ow wl eT E F (g := mkF m pc Ls (.ref a :: rest)) rfl rfl hd
  subst hp
  exact Run.to stp (k T' ⟨vm0, k0, locs, hx, X', e', r⟩)
theorem w_instNull (w : Wk p l e R s m args below meth c Z EL own h0 ws T h cells slots S) {index : Nat} (hd : decode c.code pc = .ok (.instanceof index, 3)) (hp : pc + 3 = pc') (k : Run p e below Q T (mkF m pc' Ls (.int 0 :: rest))) : Run p e below Q T (mkF m pc Ls (.null :: rest)) := by
  obtain ⟨vm0, k0, locs, hx, X, eT, r⟩ := w
  subst hp
  exact Run.to (X.instanceofNull hx (g := mkF m pc Ls (.null :: rest)) rfl rfl hd) k
theorem w_castNull (w : Wk p l e R s m args below meth c Z EL own h0 ws T h cells slots S) {index : Nat} (hd : decode c.code pc = .ok (.checkcast index, 3)) (hp : pc + 3 = pc') (k : Run p e below Q T (mkF m pc' Ls (.null :: rest))) : Run p e below Q T (mkF m pc Ls (.null :: rest)) := by
  obtain ⟨vm0, k0, locs, hx, X, eT, r⟩ := w
  subst hp
  exact Run.to (X.checkcastNull hx (g := mkF m pc Ls (.null :: rest)) rfl rfl hd) k
theorem w_new (w : Wk p l e R s m args below meth c Z EL own h0 ws T h cells slots S) {C : String} {index n : Nat} (wl : (Jvm.Cond.classLink own index C).before a0 Z = true) (wi : (Jvm.Cond.instantiable C n).before a0 Z = true) (wz : (Jvm.Cond.initialized C).before a0 Z = true) (hd : decode c.code pc = .ok (.new index, 3)) (hp : pc + 3 = pc') (hc : cells + 1 ≤ R.cells) (hl : slots + n ≤ R.slots)
    (k : ∀ T' h' x, Wk p l e R s m args below meth c Z EL own h0 ws T' h' (cells + 1) (slots + n) (x :: S) → Ext h h' → h.size ≤ x → h0.size ≤ x → Exa Z h' x C → (∀ {O nm d : String} {ty : FieldType}, Laid Z a0 C O nm d → parseFieldDescriptor d = some ty → Fld Z h' x O nm d (defaultValue ty)) → Run p e below Q T' (mkF m pc' Ls (.ref x :: st))) : Run p e below Q T (mkF m pc Ls st) := by
  obtain ⟨vm0, k0, locs, hx, X, eT, r⟩ := w
  obtain ⟨T', h', X', e', E, A, D, -, stp⟩ := newO X hx r.hZ r.ow wl wi wz eT (g := mkF m pc Ls st) rfl hd hc hl
  subst hp
  exact Run.to stp (k T' h' h.size ⟨vm0, k0, locs, hx, X', e', r.add E (Nat.le_refl _) A.lt⟩ E (Nat.le_refl _) r.keep.1 A D)
/-- a new array of a primitive kind: its n places hold their first value -/
theorem w_newP (w : Wk p l e R s m args below meth c Z EL own h0 ws T h cells slots S) {aty : ArrayType} {ty : FieldType} {z : Int32} {n : Nat} {dv : Value} (wl : (Jvm.Cond.arrayClass ty).before a0 Z = true) (hty : newarray.typeOf aty = ty) (hdv : defaultValue ty = dv) (hd : decode c.code pc = .ok (.newarray aty, 2)) (hz : ¬ z < 0) (hn : z.toNatClampNeg ≤ n) (hb : n * 8 ≤ 536870912) (hp : pc + 2 = pc') (hc : cells + 1 ≤ R.cells) (hl : slots + n ≤ R.slots)
    (k : ∀ T' h' x ka, Wk p l e R s m args below meth c Z EL own h0 ws T' h' (cells + 1) (slots + n) (x :: S) → Ext h h' → h.size ≤ x → h0.size ≤ x → Arv Z h' x ka ty z (List.replicate n dv) dv → Run p e below Q T' (mkF m pc' Ls (.ref x :: rest))) : Run p e below Q T (mkF m pc Ls (.int z :: rest)) := by
  obtain ⟨vm0, k0, locs, hx, X, eT, r⟩ := w
  subst hty hdv hp
  obtain ⟨T', h', kA, X', e', E, A, stp⟩ := newP X hx r.hZ wl eT (g := mkF m pc Ls (.int z :: rest)) rfl hd rfl hz hn hb hc hl
  have V := (Arv.new A hz).pad (pad_rep [] _ n)
  exact Run.to stp (k T' h' h.size kA ⟨vm0, k0, locs, hx, X', e', r.add E (Nat.le_refl _) A.lt⟩ E (Nat.le_refl _) r.keep.1 V)
theorem w_stC (w : Wk p l e R s m args below meth c Z EL own h0 ws T h cells slots S) {a : Addr} {ka : ClassId} {z j x x' : Int32} {vs : List Value} {dv : Value} (V : Arv Z h a ka .char z vs dv) {i : Nat} (hj : ¬ j < 0) (hi : j.toNatClampNeg = i) (hiz : i < z.toNatClampNeg) (hiv : i < vs.length) (hx' : nar .char x = x') (hd : decode c.code pc = .ok (.castore, 1)) (q : a ∈ ws ∨ h0.size ≤ a) (hp : pc + 1 = pc')
    (k : ∀ T' h', Wk p l e R s m args below meth c Z EL own h0 ws T' h' cells slots S → Wr h h' a i (.int x') → Arv Z h' a ka .char z (vs.set i (.int x')) dv → Run p e below Q T' (mkF m pc' Ls rest)) : Run p e below Q T (mkF m pc Ls (.int x :: .int j :: .ref a :: rest)) := by
  obtain ⟨vm0, k0, locs, hx, X, eT, r⟩ := w
  obtain ⟨cl, A, q1, q2, q3, q4, q5⟩ := V
  have hin : ¬ (j < 0 ∨ cl.slots.size ≤ j.toNatClampNeg) := by rw [q2, hi]; rintro (z | z); exact hj z; omega
  obtain ⟨T', h', X', e', Wq, stp⟩ := stC X hx r.hZ eT A hin (g := mkF m pc Ls (.int x :: .int j :: .ref a :: rest)) rfl rfl hd
  subst hp hx'
  have V' := Arv.set A q1 q2 q3 q4 q5 (fits_nar_char x) Wq i hi hiv
  rw [hi] at Wq
  have r' := r.wr Wq (Safe.arr r.hZ.alike A (by decide)) q
  rw [hi] at X'
  exact Run.to stp (k T' h' ⟨vm0, k0, _, hx, X', e', r'⟩ Wq V')
theorem w_stB (w : Wk p l e R s m args below meth c Z EL own h0 ws T h cells slots S) {a : Addr} {ka : ClassId} {z j x x' : Int32} {vs : List Value} {dv : Value} (V : Arv Z h a ka .byte z vs dv) {i : Nat} (hj : ¬ j < 0) (hi : j.toNatClampNeg = i) (hiz : i < z.toNatClampNeg) (hiv : i < vs.length) (hx' : nar .byte x = x') (hd : decode c.code pc = .ok (.bastore, 1)) (q : a ∈ ws ∨ h0.size ≤ a) (hS : a ∈ S) (hp : pc + 1 = pc')
    (k : ∀ T' h', Wk p l e R s m args below meth c Z EL own h0 ws T' h' cells slots S → Wr h h' a i (.int x') → Arv Z h' a ka .byte z (vs.set i (.int x')) dv → Run p e below Q T' (mkF m pc' Ls rest)) : Run p e below Q T (mkF m pc Ls (.int x :: .int j :: .ref a :: rest)) := by
  obtain ⟨vm0, k0, locs, hx, X, eT, r⟩ := w
  obtain ⟨cl, A, q1, q2, q3, q4, q5⟩ := V
  have hin : ¬ (j < 0 ∨ cl.slots.size ≤ j.toNatClampNeg) := by rw [q2, hi]; rintro (z | z); exact hj z; omega
  obtain ⟨T', h', X', e', Wq, stp⟩ := stB X hx r.hZ eT A hin (g := mkF m pc Ls (.int x :: .int j :: .ref a :: rest)) rfl rfl hd
  subst hp hx'
  have V' := Arv.set A q1 q2 q3 q4 q5 (fits_nar_byte x) Wq i hi hiv
  rw [hi] at Wq
  have r' := r.wr Wq (r.2.2.2.2.2.2.2.2.2 a hS).2 q
  rw [hi] at X'
  exact Run.to stp (k T' h' ⟨vm0, k0, _, hx, X', e', r'⟩ Wq V')
theorem w_len (w : Wk p l e R s m args below meth c Z EL own h0 ws T h cells slots S) {a : Addr} {ka : ClassId} {ty : FieldType} {z : Int32} {vs : List Value} {dv : Value} (V : Arv Z h a ka ty z vs dv) (hd : decode c.code pc = .ok (.arraylength, 1)) (hp : pc + 1 = pc')
    (k : Run p e below Q T (mkF m pc' Ls (.int z :: rest))) : Run p e below Q T (mkF m pc Ls (.ref a :: rest)) := by
  obtain ⟨vm0, k0, locs, hx, X, eT, r⟩ := w
  obtain ⟨cl, A, q1, q2, q3, q4, q5⟩ := V
  subst hp
  rw [← len_of q2 q3] at k
  exact Run.to (X.arraylength hx (by rw [eT]; exact A.1) (State.isArrayOf_alike r.hZ.alike A.2.1) (g := mkF m pc Ls (.ref a :: rest)) rfl rfl hd) k
theorem w_ldC (w : Wk p l e R s m args below meth c Z EL own h0 ws T h cells slots S) {a : Addr} {ka : ClassId} {z j : Int32} {vs : List Value} {dv v : Value} (V : Arv Z h a ka .char z vs dv) {i : Nat} (hj : ¬ j < 0) (hi : j.toNatClampNeg = i) (hiz : i < z.toNatClampNeg) (hv : vs.getD i dv = v) (hd : decode c.code pc = .ok (.caload, 1)) (hp : pc + 1 = pc')
    (k : Run p e below Q T (mkF m pc' Ls (v :: rest))) : Run p e below Q T (mkF m pc Ls (.int j :: .ref a :: rest)) := by
  obtain ⟨vm0, k0, locs, hx, X, eT, r⟩ := w
  obtain ⟨cl, A, q1, q2, q3, q4, q5⟩ := V
  have hin : ¬ (j < 0 ∨ cl.slots.size ≤ j.toNatClampNeg) := by rw [q2, hi]; rintro (z | z); exact hj z; omega
  subst hp
  exact Run.to (X.caload hx (j := j) (v := v) (by rw [eT]; exact A.1) (State.isArrayOf_alike r.hZ.alike A.2.1) A.2.2 hin (q4.at hin (by rw [hi]; exact hv)) (g := mkF m pc Ls (.int j :: .ref a :: rest)) rfl rfl hd) k
theorem w_ldB (w : Wk p l e R s m args below meth c Z EL own h0 ws T h cells slots S) {a : Addr} {ka : ClassId} {z j : Int32} {vs : List Value} {dv v : Value} (V : Arv Z h a ka .byte z vs dv) {i : Nat} (hj : ¬ j < 0) (hi : j.toNatClampNeg = i) (hiz : i < z.toNatClampNeg) (hv : vs.getD i dv = v) (hd : decode c.code pc = .ok (.baload, 1)) (hp : pc + 1 = pc')
    (k : Run p e below Q T (mkF m pc' Ls (v :: rest))) : Run p e below Q T (mkF m pc Ls (.int j :: .ref a :: rest)) := by
  obtain ⟨vm0, k0, locs, hx, X, eT, r⟩ := w
  obtain ⟨cl, A, q1, q2, q3, q4, q5⟩ := V
  have hin : ¬ (j < 0 ∨ cl.slots.size ≤ j.toNatClampNeg) := by rw [q2, hi]; rintro (z | z); exact hj z; omega
  subst hp
  exact Run.to (X.baloadBytes hx (j := j) (v := v) (by rw [eT]; exact A.1) (State.isArrayOf_alike r.hZ.alike A.2.1) A.2.2 hin (q4.at hin (by rw [hi]; exact hv)) (g := mkF m pc Ls (.int j :: .ref a :: rest)) rfl rfl hd) k
/-- putfield: into an object that no constant books (by its class, or one of S) -/
theorem w_putF (w : Wk p l e R s m args below meth c Z EL own h0 ws T h cells slots S) {R0 O n d C : String} {index kk : Nat} {ty : FieldType} (wl : (Jvm.Cond.fieldLink own index R0 n d).before a0 Z = true) (via : Via Z R0 O n d) {a : Addr} {v old : Value} (F : Fld Z h a O n d old) (E : Exa Z h a C) (L : (Jvm.Cond.lays C O n d).before a0 Z = true ∨ ((Jvm.Cond.laysFinal C O n d).before a0 Z = true ∧ own = O ∧ meth.name = "<init>")) (wi : (Jvm.Cond.instantiable C kk).before a0 Z = true)
    (hty : parseFieldDescriptor d = some ty) (hn : narrow ty v = v) (hf : fits ty v = true) (hd : decode c.code pc = .ok (.putfield index, 3)) (q : a ∈ ws ∨ h0.size ≤ a) (hS : (C ≠ "java/lang/String" ∧ C ≠ "[B") ∨ a ∈ S) (hp : pc + 3 = pc')
    (k : ∀ T' h', Wk p l e R s m args below meth c Z EL own h0 ws T' h' cells slots S → Wr h h' a (Jvm.RoadKit.slotOf Z O n d) v → Fld Z h' a O n d v → Exa Z h' a C → Run p e below Q T' (mkF m pc' Ls rest)) : Run p e below Q T (mkF m pc Ls (v :: .ref a :: rest)) := by
  obtain ⟨vm0, k0, locs, hx, X, eT, r⟩ := w
  obtain ⟨T', h', X', e', Wq, stp⟩ := putF X hx r.hZ (host := "") r.ow (Or.inl wl) via eT F E L wi hty hn hf (g := mkF m pc Ls (v :: .ref a :: rest)) rfl rfl hd
  subst hp
  have Sa : Safe Z EL vm0 h a := by
    rcases hS with hS | hS
    · exact Safe.exa r.hZ.alike E hS.1 hS.2
    · exact (r.2.2.2.2.2.2.2.2.2 a hS).2
  exact Run.to stp (k T' h' ⟨vm0, k0, _, hx, X', e', r.wr Wq Sa q⟩ Wq (F.same Wq) (E.wr Wq))
theorem w_objInit (w : Wk p l e R s m args below meth c Z EL own h0 ws T h cells slots S) {idx : Nat} (w1 : (Jvm.Cond.methodLink own idx Lib.objectInit).before a0 Z = true) (w2 : (Jvm.Cond.instanceMethod Lib.objectInit).before a0 Z = true) (w3 : (Jvm.Cond.code Lib.objectInit ⟨#[0xb1]⟩ 1 none).before a0 Z = true) {a : Addr} (hd : decode c.code pc = .ok (.invokespecial idx, 3)) (hsz : Ls.size = c.maxLocals) (hf : 1 ≤ R.frames) {W : Nat} (hW : (rest.map fun v => v.category).sum ≤ W) (hl : W + 12 ≤ R.locals) (hp : pc + 3 = pc')
    (k : ∀ T', Wk p l e R s m args below meth c Z EL own h0 ws T' h cells slots S → Run p e below Q T' (mkF m pc' Ls rest)) : Run p e below Q T (mkF m pc Ls (.ref a :: rest)) := by
  obtain ⟨vm0, k0, locs, hx, X, eT, r⟩ := w
  obtain ⟨T', X', e', stp⟩ := initO X hx r.hZ r.ow w1 w2 w3 eT (g := mkF m pc Ls (.ref a :: rest)) rfl hsz rfl hd hf (W := W) (by show 2 * 0 + _ ≤ _; omega) hl
  subst hp
  exact Run.to stp (k T' ⟨vm0, k0, locs, hx, X', e', r⟩)
theorem w_ldcI (w : Wk p l e R s m args below meth c Z EL own h0 ws T h cells slots S) {index : Nat} {v : Int32} (wl : (Jvm.Cond.constant own index v).before a0 Z = true) (hd : decode c.code pc = .ok (.ldc index, 2)) (hp : pc + 2 = pc') (k : Run p e below Q T (mkF m pc' Ls (.int v :: st))) : Run p e below Q T (mkF m pc Ls st) := by
  obtain ⟨vm0, k0, locs, hx, X, eT, r⟩ := w
  subst hp
  exact Run.to (fun _ q => X.ldcI hx r.ow (mvT r.hZ wl) (g := mkF m pc Ls st) rfl hd q) k
theorem w_ldcJ (w : Wk p l e R s m args below meth c Z EL own h0 ws T h cells slots S) {index : Nat} {v : Int64} (wl : (Jvm.Cond.constantLong own index v).before a0 Z = true) (hd : decode c.code pc = .ok (.ldc2_w index, 3)) (hp : pc + 3 = pc') (k : Run p e below Q T (mkF m pc' Ls (.long v :: st))) : Run p e below Q T (mkF m pc Ls st) := by
  obtain ⟨vm0, k0, locs, hx, X, eT, r⟩ := w
  subst hp
  exact Run.to (fun _ q => X.ldc2J hx r.ow (mvT r.hZ wl) (g := mkF m pc Ls st) rfl hd q) k
/-- ldc of a String constant that is one of EL: read -/
theorem w_ldcS (w : Wk p l e R s m args below meth c Z EL own h0 ws T h cells slots S) (hEL : EW Z a0 EL) {text : String} {index : Nat} (wl : (Jvm.Cond.stringLink own index text).before a0 Z = true) (wS : ∀ a ∈ Bundle.stringAtoms, a.before a0 Z = true) (hmem : (own, index) ∈ EL) {vs : List Value} {z : Int32} {n : Nat}
    (ht : (∀ c ∈ text.toList, c.toNat < 256) ∧ text.toList.map (fun c => Value.int (Jvm.Lit.byteI c.toNat.toUInt16)) = vs) (hz : ¬ z < 0) (hl : z.toNatClampNeg = vs.length) (hn : 4 * text.toList.length ≤ n) (hbig : n ≤ 536870912) (hd : decode c.code pc = .ok (.ldc index, 2)) (hp : pc + 2 = pc') (hc : cells + 2 ≤ R.cells) (hl' : slots + (n + 4) ≤ R.slots)
    (k : ∀ T' h' x t kb, Wk p l e R s m args below meth c Z EL own h0 ws T' h' (cells + 2) (slots + (n + 4)) S → Ext h h' → Exa Z h' x "java/lang/String" → Fld Z h' x "java/lang/String" "coder" "B" (.int 0) → Fld Z h' x "java/lang/String" "value" "[B" (.ref t) → Arv Z h' t kb .byte z vs (.int 0) → (∀ y ∈ S, y ≠ x ∧ y ≠ t) → Run p e below Q T' (mkF m pc' Ls (.ref x :: st))) : Run p e below Q T (mkF m pc Ls st) := by
  obtain ⟨vm0, k0, locs, hx, X, eT, r⟩ := w
  obtain ⟨x, T', h', k1, t, kb, X', e', E, hS, hk1, hZ', hown', A, C, V, K, -, -, hCH, -, hne, stp⟩ := ldcCH X hx r.hZ r.ow wl wS eT r.1 r.2.1 hEL hmem r.ch ht hz hl (g := mkF m pc Ls st) rfl hd hn hbig hc hl'
  subst hp
  obtain ⟨a1, a2, a3, a4, a5, a6, a7, a8, a9, a10⟩ := r
  have hs : ∀ y ∈ S, y < h'.size ∧ Safe Z EL T'.vm h' y := fun y q => ⟨Nat.lt_of_lt_of_le (a10 y q).1 E.1, hCH.safe (a10 y q).1 (a10 y q).2⟩
  exact Run.to stp (k T' h' x t kb ⟨T'.vm, k1, locs, hx, X', e', hS, hk1, hZ', hown', a5.trans hCH, a6, a7.ext E, a8, a9, hs⟩ E A C V K fun y q => hne y (hs y q).2)
/-- ldc of any String constant: what it pushes is a reference -/
theorem w_ldcO (w : Wk p l e R s m args below meth c Z EL own h0 ws T h cells slots S) (hEL : EW Z a0 EL) {text : String} {index : Nat} (wl : (Jvm.Cond.stringLink own index text).before a0 Z = true) (wS : ∀ a ∈ Bundle.stringAtoms, a.before a0 Z = true) {n : Nat} (hn : 4 * text.toList.length ≤ n) (hbig : n ≤ 536870912) (hd : decode c.code pc = .ok (.ldc index, 2)) (hp : pc + 2 = pc') (hc : cells + 2 ≤ R.cells) (hl' : slots + (n + 4) ≤ R.slots)
    (k : ∀ T' h' x, Wk p l e R s m args below meth c Z EL own h0 ws T' h' (cells + 2) (slots + (n + 4)) S → Ext h h' → Run p e below Q T' (mkF m pc' Ls (.ref x :: st))) : Run p e below Q T (mkF m pc Ls st) := by
  obtain ⟨vm0, k0, locs, hx, X, eT, r⟩ := w
  obtain ⟨x, T', h', k1, X', e', E, hS, hk1, hZ', hown', hCH, -, stp⟩ := ldcOH X hx r.hZ r.ow wl wS eT r.1 r.2.1 hEL r.ch (g := mkF m pc Ls st) rfl hd hn hbig hc hl'
  subst hp
  obtain ⟨a1, a2, a3, a4, a5, a6, a7, a8, a9, a10⟩ := r
  exact Run.to stp (k T' h' x ⟨T'.vm, k1, locs, hx, X', e', hS, hk1, hZ', hown', a5.trans hCH, a6, a7.ext E, a8, a9, fun y q => ⟨Nat.lt_of_lt_of_le (a10 y q).1 E.1, hCH.safe (a10 y q).1 (a10 y q).2⟩⟩ E)
/-! contracts -/
/-- what a body promises at its end -/
def QmN (Z : State) (EL : List (String × Nat)) (s : State) (h0 : Heap) (ws : List Addr) (rm : Room) (P : Option Value → Heap → List Addr → Prop) (o : Outcome) (U' : State) : Prop :=
  ∃ v L, o = .returned v ∧ (Fr Z.heap.size L ∧ Keep h0 U'.heap ws ∧ ∃ N, P v U'.heap N ∧ ∀ x ∈ N, x < U'.heap.size ∧ Safe Z EL U'.vm U'.heap x) ∧ CHr Z EL s.vm s.heap U'.vm U'.heap ∧ ReturnedEndW s o U' L rm.cells rm.slots
def Pm (Z : State) (EL : List (String × Nat)) (as' : Array Value) (h : Heap) (S ws : List Addr) (a : Array Value) (U : State) : Prop := a = as' ∧ Z.Warmed39 U.vm ∧ U.heap = h ∧ CHv Z EL U.vm h ∧ Ext Z.heap h ∧ (∀ x ∈ ws, Z.heap.size ≤ x) ∧ ∀ x ∈ S, x < h.size ∧ Safe Z EL U.vm h x
def MetN (l : Launch) (Z : State) (EL : List (String × Nat)) (y : MethodName) (bytes : ByteArray) (maxL : Nat) (ret : Option FieldType) (rm : Room) (as' : Array Value) (h : Heap) (S ws : List Addr) (P : Option Value → Heap → List Addr → Prop) : Prop :=
  ∀ wl : List Jvm.Cond, MetFree l y (head1 (Jvm.Cond.code y bytes maxL ret :: wl) rm) (Pm Z EL as' h S ws) (fun _ _ _ _ _ => True) (fun _ U o U' => QmN Z EL U h ws rm P o U')
/-- a body's contract: walk it from its first frame -/
theorem MetN.of {y : MethodName} {bytes : ByteArray} {maxL : Nat} {ret : Option FieldType} {rm : Room} {as' : Array Value} {P : Option Value → Heap → List Addr → Prop} (hpn : plainFor y = true)
    (body : ∀ p e s m below meth c T, meth.name = y.name → meth.sig.returnType = ret → meth.locks = false → c.code = bytes → c.maxLocals = maxL → s.heap = h0 → Wk p l e rm s m as' below meth c Z EL y.cls h0 ws T h0 0 0 S → Run p e below (QmN Z EL s h0 ws rm P) T (entryFrame m as' maxL)) : MetN l Z EL y bytes maxL ret rm as' h0 S ws P := by
  intro wl
  refine MetFree.of_bodySF (code := bytes) (maxLocals := maxL) (ret := ret) hpn hisR ?_
  intro p e s m args below meth c s₁ Bd hml0 hP hK
  obtain ⟨rfl, hZ, hh, hC, hn, hws, hS⟩ := hP
  have hnm := (name_of_methodNamed Bd.named Bd.method).1
  have hown : s.vm.findClass y.cls = some m.cls := findClass_of_methodNamed Bd.named
  have X0 : Stand p l e rm s m args below meth c s₁ [] 0 0 := Stand.of_body Bd
  have e0 : s₁.heap = h0 := by rw [← hh, Bd.state]; rfl
  exact body p e s m below meth c s₁ hnm Bd.returns Bd.notSynchronized Bd.bytes hml0 hh ⟨s.vm, 0, [], Bd.exec, X0, e0, (State.WarmedH.refl s).since 0, Nat.zero_le _, hZ, hown, CHr.refl hC, Fr.nil _, Keep.refl _ _, hn, hws, hS⟩
/-- the end of a walk -/
theorem w_retN (w : Wk p l e R s m args below meth c Z EL own h0 ws T h cells slots S) (hEL : EW Z a0 EL) (hs : s.heap = h0) (hlk : meth.locks = false) {v : Option Value} (hv : meth.sig.returnType = none → v = none) {P : Option Value → Heap → List Addr → Prop} {N : List Addr} (hN : ∀ x ∈ N, x ∈ S) (hP : P v h N) (hc : cells ≤ R.cells) (hl : slots ≤ R.slots)
    (stp : ∀ {vm0 : Vm} {locs : List Loc}, Stand p l e R (s.setVm vm0) m args below meth c T locs cells slots → ∀ fs, (∀ (f : JFrame) (acts : List Action), f.method = m → f.locked = none → f.entered = [] → (doReturn e (T.setTop f) acts v).1 = T.setFrames fs) → Steps p.tables e below (T.setTop g) (T.setFrames fs)) : Run p e below (QmN Z EL s h0 ws R P) T g := by
  obtain ⟨vm0, k0, locs, hx, X, eT, r⟩ := w
  obtain ⟨fs, hr, hrun, hended, hE⟩ := X.leaveW r.1 (by rw [eT]; exact r.2.1) hv
  refine ⟨_, _, stp X fs hr, hrun, hended, v, locs, rfl, ⟨r.2.2.2.2.2.1, ?_, ?_⟩, ?_, hE.1, hE.2.1, hE.2.2.1, hE.2.2.2.mono hc hl⟩
  · show Keep h0 T.heap ws
    rw [eT]; exact r.keep
  · refine ⟨N, by rw [show (T.setFrames fs).heap = h from eT]; exact hP, fun x z => ?_⟩
    show x < T.heap.size ∧ Safe Z EL T.vm T.heap x
    have q := r.2.2.2.2.2.2.2.2.2 x (hN x z)
    rw [eT]; exact ⟨q.1, (CHv.at X r.hZ hEL r.ch).safe q.1 q.2⟩
  · show CHr Z EL s.vm s.heap T.vm T.heap
    rw [eT, hs]
    exact r.2.2.2.2.1.trans (CHv.at X r.hZ hEL r.ch)
theorem w_ireturnN (w : Wk p l e R s m args below meth c Z EL own h0 ws T h cells slots S) (hEL : EW Z a0 EL) (hs : s.heap = h0) (hlk : meth.locks = false) {t : FieldType} {z : Int32} (hret : meth.sig.returnType = some t) (hn : narrow t (.int z) = .int z) (ht : t = .int ∨ t = .boolean ∨ t = .byte ∨ t = .char ∨ t = .short) {P : Option Value → Heap → List Addr → Prop} (hd : decode c.code pc = .ok (.ireturn, 1)) (hc : cells ≤ R.cells) (hl : slots ≤ R.slots) {N : List Addr} (hN : ∀ x ∈ N, x ∈ S) (hP : P (some (.int z)) h N) : Run p e below (QmN Z EL s h0 ws R P) T (mkF m pc Ls [.int z]) :=
  w_retN w hEL hs hlk (v := some (.int z)) (fun q => by rw [hret] at q; cases q) hN hP hc hl fun X fs hr => X.ireturnOut w.hx hret hn ht hd hr
theorem w_lreturnN (w : Wk p l e R s m args below meth c Z EL own h0 ws T h cells slots S) (hEL : EW Z a0 EL) (hs : s.heap = h0) (hlk : meth.locks = false) {z : Int64} (hret : meth.sig.returnType = some .long) {P : Option Value → Heap → List Addr → Prop} (hd : decode c.code pc = .ok (.lreturn, 1)) (hc : cells ≤ R.cells) (hl : slots ≤ R.slots) {N : List Addr} (hN : ∀ x ∈ N, x ∈ S) (hP : P (some (.long z)) h N) : Run p e below (QmN Z EL s h0 ws R P) T (mkF m pc Ls [.long z]) :=
  w_retN w hEL hs hlk (v := some (.long z)) (fun q => by rw [hret] at q; cases q) hN hP hc hl fun X fs hr => X.lreturnOut w.hx hret hd hr
theorem w_areturnN (w : Wk p l e R s m args below meth c Z EL own h0 ws T h cells slots S) (hEL : EW Z a0 EL) (hs : s.heap = h0) (hlk : meth.locks = false) {t : FieldType} {v : Value} (hret : meth.sig.returnType = some t) (ht : t.isReference = true) (hv : v.isRef = true) {P : Option Value → Heap → List Addr → Prop} (hd : decode c.code pc = .ok (.areturn, 1)) (hc : cells ≤ R.cells) (hl : slots ≤ R.slots) {N : List Addr} (hN : ∀ x ∈ N, x ∈ S) (hP : P (some v) h N) : Run p e below (QmN Z EL s h0 ws R P) T (mkF m pc Ls [v]) :=
  w_retN w hEL hs hlk (v := some v) (fun q => by rw [hret] at q; cases q) hN hP hc hl fun X fs hr => X.areturnOut w.hx hv hret ht hd hr
theorem w_returnN (w : Wk p l e R s m args below meth c Z EL own h0 ws T h cells slots S) (hEL : EW Z a0 EL) (hs : s.heap = h0) (hlk : meth.locks = false) (hret : meth.sig.returnType = none) {P : Option Value → Heap → List Addr → Prop} (hd : decode c.code pc = .ok (.return_, 1)) (hc : cells ≤ R.cells) (hl : slots ≤ R.slots) {N : List Addr} (hN : ∀ x ∈ N, x ∈ S) (hP : P none h N) : Run p e below (QmN Z EL s h0 ws R P) T (mkF m pc Ls []) :=
  w_retN w hEL hs hlk (v := none) (fun _ => rfl) hN hP hc hl fun X fs hr => X.returnOut w.hx hret hd hr
/-- a contract pays its caller -/
theorem MetN.back {y : MethodName} {bytes : ByteArray} {maxL : Nat} {ret : Option FieldType} {rm : Room} {as' : Array Value} {S' ws' : List Addr} {P : Option Value → Heap → List Addr → Prop} {len W : Nat} (hM : MetN l Z EL y bytes maxL ret rm as' h S' ws' P) (hZ : Z.Warmed39 vm0) (wc : (Jvm.Cond.code y bytes maxL ret).before a0 Z = true) (wz : (Jvm.Cond.initialized y.cls).before a0 Z = true)
    (hf : rm.frames + 1 ≤ R.frames) (hl : W + (maxL + 11) + rm.locals ≤ R.locals) (hEL : EW Z a0 EL) (H : CHv Z EL vm0 h) (hn : Ext Z.heap h) (hws : ∀ x ∈ ws', Z.heap.size ≤ x) (hS : ∀ x ∈ S', x < h.size ∧ Safe Z EL vm0 h x) :
    BackS l R p e below (s.setVm vm0) args y len W (fun A a => a = as' ∧ A.U.heap = h ∧ A.cells + rm.cells ≤ R.cells ∧ A.slots + rm.slots ≤ R.slots)
      (fun A _ v B => ∃ L, (Fr Z.heap.size L ∧ Keep h B.U.heap ws' ∧ ∃ N, P v B.U.heap N ∧ ∀ x ∈ N, x < B.U.heap.size ∧ Safe Z EL B.U.vm B.U.heap x) ∧ B.locs = A.locs ++ L ∧ B.cells = A.cells + rm.cells ∧ B.slots = A.slots + rm.slots ∧ CHr Z EL vm0 h B.U.vm B.U.heap) :=
  BackS.of_freeW (bytes := bytes) (maxL := maxL) (ret := ret) (E := fun _ first o t L k n => k = rm.cells ∧ n = rm.slots ∧ (∃ v, o = .returned v ∧ (Fr Z.heap.size L ∧ Keep h t.heap ws' ∧ ∃ N, P v t.heap N ∧ ∀ x ∈ N, x < t.heap.size ∧ Safe Z EL t.vm t.heap x)) ∧ CHr Z EL first.vm first.heap t.vm t.heap) (hM []) hf hl
    (fun m meth c A a Y hp => have hU : Z.Warmed39 A.U.vm := wtrans (s := s.setVm vm0) hZ Y.warmed
      ⟨by show (Jvm.Cond.and _ .tt).before a A.U = true; rw [Cond.before_and, mv hU wc]; rfl, mv hU wc, mv hU wz, hp.2.2.1, hp.2.2.2⟩)
    (fun m meth c A a g mk Y hp => ⟨hp.1, wtrans (s := s.setVm vm0) hZ Y.warmed, hp.2.1, (CHv.at Y hZ hEL H).1, hn, hws, fun x q => ⟨(hS x q).1, (CHv.at Y hZ hEL H).safe (hS x q).1 (hS x q).2⟩⟩) (fun _ _ _ _ _ _ _ _ _ => trivial)
    (fun _ _ _ _ ⟨v, L, h1, h2, h3, h4⟩ => ⟨L, _, _, h4, rfl, rfl, ⟨v, h1, h2⟩, h3⟩)
    (fun m meth c A a g mk v t L k n Y hp _ _ ⟨e1, e2, ⟨v', e3, e4⟩, e5⟩ => by
      cases e3; subst e1 e2
      refine ⟨L, e4, rfl, rfl, rfl, (CHv.at Y hZ hEL H).trans ?_⟩
      rw [← hp.2.1]; exact e5)
theorem Rs.adds (r : Rs s m Z EL own h0 ws vm0 k0 locs h S) {N : List Addr} (q : ∀ x ∈ N, x < h.size ∧ Safe Z EL vm0 h x) : Rs s m Z EL own h0 ws vm0 k0 locs h (N ++ S) := by
  obtain ⟨a1, a2, a3, a4, a5, a6, a7, a8, a9, a10⟩ := r
  exact ⟨a1, a2, a3, a4, a5, a6, a7, a8, a9, fun x z => (List.mem_append.mp z).elim (q x) (a10 x)⟩
/-- what stands behind a call -/
theorem Rs.call (r : Rs s m Z EL own h0 ws vm0 k0 locs h S) {vm1 : Vm} {L : List Loc} {ws' : List Addr} (h2 : (s.setVm vm0).Since vm1 h'.size) (hC : CHr Z EL vm0 h vm1 h') (F : Fr Z.heap.size L) (K : Keep h h' ws') (q : ∀ x ∈ ws', x ∈ ws ∨ h0.size ≤ x) : Rs s m Z EL own h0 ws vm1 h'.size (locs ++ L) h' S := by
  obtain ⟨a1, a2, a3, a4, a5, a6, a7, a8, a9, a10⟩ := r
  exact ⟨a1.trans h2 (Nat.le_trans a2 K.1), Nat.le_refl _, State.Warmed39.trans (t := s.setVm vm0) a3 h2.1, (h2.1.alike.findClass _ _).trans a4, a5.trans hC, a6.app F, a7.trans K q, a8, a9, fun x z => ⟨Nat.lt_of_lt_of_le (a10 x z).1 K.1, hC.safe (a10 x z).1 (a10 x z).2⟩⟩
theorem w_staticN (w : Wk p l e R s m args below meth c Z EL own h0 ws T h cells slots S) (hEL : EW Z a0 EL) {index : Nat} {y : MethodName} {bytes : ByteArray} {maxL : Nat} {ret : Option FieldType} {rm : Room} {as' : Array Value} {S' ws' : List Addr} {P : Option Value → Heap → List Addr → Prop} {W : Nat} {argsL : List Value}
    (w1 : (Jvm.Cond.methodLink own index y).before a0 Z = true) (w2 : (Jvm.Cond.static y).before a0 Z = true) (w3 : (Jvm.Cond.initialized y.cls).before a0 Z = true) (w4 : (Jvm.Cond.code y bytes maxL ret).before a0 Z = true) (hy : y.cls ≠ "java/lang/invoke/MethodHandle" ∧ y.cls ≠ "java/lang/invoke/VarHandle")
    (hM : MetN l Z EL y bytes maxL ret rm as' h S' ws' P) (hS : ∀ x ∈ S', x ∈ S) (hws : ∀ x ∈ ws', x ∈ ws ∨ h0.size ≤ x) (hlen : ∀ sig, parseMethodDescriptor y.desc = some sig → argsL.length = sig.parameters.length) (ha : argsL.toArray = as') (hst : st = argsL.reverse ++ rest) (hd : decode c.code pc = .ok (.invokestatic index, 3)) (hsz : Ls.size = c.maxLocals)
    (hW : (rest.map fun v => v.category).sum ≤ W) (hf : rm.frames + 1 ≤ R.frames) (hl : W + (maxL + 11) + rm.locals ≤ R.locals) (hc : cells + rm.cells ≤ R.cells) (hsl : slots + rm.slots ≤ R.slots) (hp : pc + 3 = pc')
    (k : ∀ v N T' h', Wk p l e R s m args below meth c Z EL own h0 ws T' h' (cells + rm.cells) (slots + rm.slots) (N ++ S) → Keep h h' ws' → P v h' N → Run p e below Q T' (mkF m pc' Ls (v.toList ++ rest))) : Run p e below Q T (mkF m pc Ls st) := by
  obtain ⟨vm0, k0, locs, hx, X, eT, r⟩ := w
  have hn := r.old
  have hb := MetN.back (R := R) (p := p) (e := e) (below := below) (s := s) (args := args) (len := 3) (W := W) hM r.hZ w4 w3 hf hl hEL r.ch hn (fun x q => (hws x q).elim (r.2.2.2.2.2.2.2.2.1 x) (Nat.le_trans r.2.2.2.2.2.2.2.1.1)) (fun x q => r.2.2.2.2.2.2.2.2.2 x (hS x q))
  obtain ⟨v, vm1, ⟨T', L', c', n'⟩, -, X', hSi, hg, ⟨L, ⟨q1, q2, N, q3, qN⟩, y1, y2, y3, hC⟩, stp⟩ := callSS X hx r.ow (mvT r.hZ w1) (mvT r.hZ w2) (mvT r.hZ w3) (mvT r.hZ w4) hy hb (g := mkF m pc Ls st) rfl hsz (argsL := argsL) (rest := rest) hlen hst (by show 2 * 0 + _ ≤ _; omega) hd (fun _ _ => ⟨ha, eT, hc, hsl⟩)
  dsimp only [Pt.U, Pt.locs, Pt.cells, Pt.slots] at X' hSi hg q2 q3 qN y1 y2 y3 hC stp
  subst y1 y2 y3 hp
  exact Run.stp stp (k v N T' T'.heap ⟨T'.vm, _, _, hx, X', rfl, (r.call hSi hC q1 q2 hws).adds qN⟩ q2 q3)
theorem w_specialN (w : Wk p l e R s m args below meth c Z EL own h0 ws T h cells slots S) (hEL : EW Z a0 EL) {index : Nat} {y : MethodName} {bytes : ByteArray} {maxL : Nat} {rm : Room} {as' : Array Value} {S' ws' : List Addr} {P : Option Value → Heap → List Addr → Prop} {W : Nat} {a : Addr} {argsL : List Value}
    (hy1 : y.name = "<init>") (w1 : (Jvm.Cond.methodLink own index y).before a0 Z = true) (w2 : (Jvm.Cond.instanceMethod y).before a0 Z = true) (w3 : (Jvm.Cond.initialized y.cls).before a0 Z = true) (w4 : (Jvm.Cond.code y bytes maxL none).before a0 Z = true) (hy : y.cls ≠ "java/lang/invoke/MethodHandle" ∧ y.cls ≠ "java/lang/invoke/VarHandle")
    (hM : MetN l Z EL y bytes maxL none rm as' h S' ws' P) (hS : ∀ x ∈ S', x ∈ S) (hws : ∀ x ∈ ws', x ∈ ws ∨ h0.size ≤ x) (hlen : ∀ sig, parseMethodDescriptor y.desc = some sig → argsL.length = sig.parameters.length) (ha : (Value.ref a :: argsL).toArray = as') (hst : st = argsL.reverse ++ .ref a :: rest) (hd : decode c.code pc = .ok (.invokespecial index, 3)) (hsz : Ls.size = c.maxLocals)
    (hW : (rest.map fun v => v.category).sum ≤ W) (hf : rm.frames + 1 ≤ R.frames) (hl : W + (maxL + 11) + rm.locals ≤ R.locals) (hc : cells + rm.cells ≤ R.cells) (hsl : slots + rm.slots ≤ R.slots) (hp : pc + 3 = pc')
    (k : ∀ v N T' h', Wk p l e R s m args below meth c Z EL own h0 ws T' h' (cells + rm.cells) (slots + rm.slots) (N ++ S) → Keep h h' ws' → P v h' N → Run p e below Q T' (mkF m pc' Ls (v.toList ++ rest))) : Run p e below Q T (mkF m pc Ls st) := by
  obtain ⟨vm0, k0, locs, hx, X, eT, r⟩ := w
  have hn := r.old
  have hb := MetN.back (R := R) (p := p) (e := e) (below := below) (s := s) (args := args) (len := 3) (W := W) hM r.hZ w4 w3 hf hl hEL r.ch hn (fun x q => (hws x q).elim (r.2.2.2.2.2.2.2.2.1 x) (Nat.le_trans r.2.2.2.2.2.2.2.1.1)) (fun x q => r.2.2.2.2.2.2.2.2.2 x (hS x q))
  obtain ⟨v, vm1, ⟨T', L', c', n'⟩, -, X', hSi, hg, ⟨L, ⟨q1, q2, N, q3, qN⟩, y1, y2, y3, hC⟩, stp⟩ := X.specialBackS hx hy1 r.ow (mvT r.hZ w1) (mvT r.hZ w2) (mvT r.hZ w4) hy hb (g := mkF m pc Ls st) rfl hsz (Steps.refl _) (a := a) (argsL := argsL) (rest := rest) hlen hst (by show 2 * 0 + _ ≤ _; omega) hd (fun _ _ => ⟨ha, eT, hc, hsl⟩)
  dsimp only [Pt.U, Pt.locs, Pt.cells, Pt.slots] at X' hSi hg q2 q3 qN y1 y2 y3 hC stp
  subst y1 y2 y3 hp
  exact Run.stp stp (k v N T' T'.heap ⟨T'.vm, _, _, hx, X', rfl, (r.call hSi hC q1 q2 hws).adds qN⟩ q2 q3)
theorem w_virtualN (w : Wk p l e R s m args below meth c Z EL own h0 ws T h cells slots S) (hEL : EW Z a0 EL) {index : Nat} {y y' : MethodName} {C : String} {bytes : ByteArray} {maxL : Nat} {ret : Option FieldType} {rm : Room} {as' : Array Value} {S' ws' : List Addr} {P : Option Value → Heap → List Addr → Prop} {W : Nat} {a : Addr} {argsL : List Value}
    (w1 : (Jvm.Cond.methodLink own index y).before a0 Z = true) (w2 : (Jvm.Cond.declares y).before a0 Z = true) (w5 : (Jvm.Cond.selects y.cls y y).before a0 Z = true) (w6 : (Jvm.Cond.selects C y y').before a0 Z = true) (w7 : (Jvm.Cond.instanceMethod y').before a0 Z = true) (w3 : (Jvm.Cond.initialized y'.cls).before a0 Z = true) (w4 : (Jvm.Cond.code y' bytes maxL ret).before a0 Z = true) (hy : y.cls ≠ "java/lang/invoke/MethodHandle" ∧ y.cls ≠ "java/lang/invoke/VarHandle")
    (E : Exa Z h a C) (hM : MetN l Z EL y' bytes maxL ret rm as' h S' ws' P) (hS : ∀ x ∈ S', x ∈ S) (hws : ∀ x ∈ ws', x ∈ ws ∨ h0.size ≤ x) (hlen : ∀ sig, parseMethodDescriptor y.desc = some sig → argsL.length = sig.parameters.length) (ha : (Value.ref a :: argsL).toArray = as') (hst : st = argsL.reverse ++ .ref a :: rest) (hd : decode c.code pc = .ok (.invokevirtual index, 3)) (hsz : Ls.size = c.maxLocals)
    (hW : (rest.map fun v => v.category).sum ≤ W) (hf : rm.frames + 1 ≤ R.frames) (hl : W + (maxL + 11) + rm.locals ≤ R.locals) (hc : cells + rm.cells ≤ R.cells) (hsl : slots + rm.slots ≤ R.slots) (hp : pc + 3 = pc')
    (k : ∀ v N T' h', Wk p l e R s m args below meth c Z EL own h0 ws T' h' (cells + rm.cells) (slots + rm.slots) (N ++ S) → Keep h h' ws' → P v h' N → Run p e below Q T' (mkF m pc' Ls (v.toList ++ rest))) : Run p e below Q T (mkF m pc Ls st) := by
  obtain ⟨vm0, k0, locs, hx, X, eT, r⟩ := w
  have hn := r.old
  have hb := MetN.back (R := R) (p := p) (e := e) (below := below) (s := s) (args := args) (len := 3) (W := W) hM r.hZ w4 w3 hf hl hEL r.ch hn (fun x q => (hws x q).elim (r.2.2.2.2.2.2.2.2.1 x) (Nat.le_trans r.2.2.2.2.2.2.2.1.1)) (fun x q => r.2.2.2.2.2.2.2.2.2 x (hS x q))
  obtain ⟨cq, kq, qa, qb, qc⟩ := isOf r.hZ eT E
  obtain ⟨v, vm1, ⟨T', L', c', n'⟩, -, X', hSi, hg, ⟨L, ⟨q1, q2, N, q3, qN⟩, y1, y2, y3, hC⟩, stp⟩ := X.virtualBackS hx r.ow (mvT r.hZ w1) (mvT r.hZ w2) (notFace_of_selects (args := #[]) (mvT r.hZ w5)) (mvT r.hZ w6) (mvT r.hZ w7) hy hb qa qc (g := mkF m pc Ls st) rfl hsz (Steps.refl _) (argsL := argsL) (rest := rest) hlen hst (by show 2 * 0 + _ ≤ _; omega) hd (fun _ _ => ⟨ha, eT, hc, hsl⟩)
  dsimp only [Pt.U, Pt.locs, Pt.cells, Pt.slots] at X' hSi hg q2 q3 qN y1 y2 y3 hC stp
  subst y1 y2 y3 hp
  exact Run.stp stp (k v N T' T'.heap ⟨T'.vm, _, _, hx, X', rfl, (r.call hSi hC q1 q2 hws).adds qN⟩ q2 q3)
/-- a contract that says nothing of what it made -/
def Lf (P : Option Value → Heap → Prop) (v : Option Value) (h : Heap) (N : List Addr) : Prop := N = [] ∧ P v h
abbrev Qm (Z : State) (EL : List (String × Nat)) (s : State) (h0 : Heap) (ws : List Addr) (rm : Room) (P : Option Value → Heap → Prop) (o : Outcome) (U' : State) : Prop := QmN Z EL s h0 ws rm (Lf P) o U'
abbrev Met (l : Launch) (Z : State) (EL : List (String × Nat)) (y : MethodName) (bytes : ByteArray) (maxL : Nat) (ret : Option FieldType) (rm : Room) (as' : Array Value) (h : Heap) (S ws : List Addr) (P : Option Value → Heap → Prop) : Prop := MetN l Z EL y bytes maxL ret rm as' h S ws (Lf P)
theorem Met.of {y : MethodName} {bytes : ByteArray} {maxL : Nat} {ret : Option FieldType} {rm : Room} {as' : Array Value} {P : Option Value → Heap → Prop} (hpn : plainFor y = true)
    (body : ∀ p e s m below meth c T, meth.name = y.name → meth.sig.returnType = ret → meth.locks = false → c.code = bytes → c.maxLocals = maxL → s.heap = h0 → Wk p l e rm s m as' below meth c Z EL y.cls h0 ws T h0 0 0 S → Run p e below (Qm Z EL s h0 ws rm P) T (entryFrame m as' maxL)) : Met l Z EL y bytes maxL ret rm as' h0 S ws P := MetN.of hpn body
theorem nilS : ∀ x ∈ ([] : List Addr), x ∈ S := fun _ q => nomatch q
theorem w_ireturn (w : Wk p l e R s m args below meth c Z EL own h0 ws T h cells slots S) (hEL : EW Z a0 EL) (hs : s.heap = h0) (hlk : meth.locks = false) {t : FieldType} {z : Int32} (hret : meth.sig.returnType = some t) (hn : narrow t (.int z) = .int z) (ht : t = .int ∨ t = .boolean ∨ t = .byte ∨ t = .char ∨ t = .short) {P : Option Value → Heap → Prop} (hd : decode c.code pc = .ok (.ireturn, 1)) (hc : cells ≤ R.cells) (hl : slots ≤ R.slots) (hP : P (some (.int z)) h) : Run p e below (Qm Z EL s h0 ws R P) T (mkF m pc Ls [.int z]) :=
  w_ireturnN w hEL hs hlk hret hn ht hd hc hl nilS ⟨rfl, hP⟩
theorem w_lreturn (w : Wk p l e R s m args below meth c Z EL own h0 ws T h cells slots S) (hEL : EW Z a0 EL) (hs : s.heap = h0) (hlk : meth.locks = false) {z : Int64} (hret : meth.sig.returnType = some .long) {P : Option Value → Heap → Prop} (hd : decode c.code pc = .ok (.lreturn, 1)) (hc : cells ≤ R.cells) (hl : slots ≤ R.slots) (hP : P (some (.long z)) h) : Run p e below (Qm Z EL s h0 ws R P) T (mkF m pc Ls [.long z]) :=
  w_lreturnN w hEL hs hlk hret hd hc hl nilS ⟨rfl, hP⟩
theorem w_areturn (w : Wk p l e R s m args below meth c Z EL own h0 ws T h cells slots S) (hEL : EW Z a0 EL) (hs : s.heap = h0) (hlk : meth.locks = false) {t : FieldType} {v : Value} (hret : meth.sig.returnType = some t) (ht : t.isReference = true) (hv : v.isRef = true) {P : Option Value → Heap → Prop} (hd : decode c.code pc = .ok (.areturn, 1)) (hc : cells ≤ R.cells) (hl : slots ≤ R.slots) (hP : P (some v) h) : Run p e below (Qm Z EL s h0 ws R P) T (mkF m pc Ls [v]) :=
  w_areturnN w hEL hs hlk hret ht hv hd hc hl nilS ⟨rfl, hP⟩
theorem w_return (w : Wk p l e R s m args below meth c Z EL own h0 ws T h cells slots S) (hEL : EW Z a0 EL) (hs : s.heap = h0) (hlk : meth.locks = false) (hret : meth.sig.returnType = none) {P : Option Value → Heap → Prop} (hd : decode c.code pc = .ok (.return_, 1)) (hc : cells ≤ R.cells) (hl : slots ≤ R.slots) (hP : P none h) : Run p e below (Qm Z EL s h0 ws R P) T (mkF m pc Ls []) :=
  w_returnN w hEL hs hlk hret hd hc hl nilS ⟨rfl, hP⟩
theorem w_static (w : Wk p l e R s m args below meth c Z EL own h0 ws T h cells slots S) (hEL : EW Z a0 EL) {index : Nat} {y : MethodName} {bytes : ByteArray} {maxL : Nat} {ret : Option FieldType} {rm : Room} {as' : Array Value} {S' ws' : List Addr} {P : Option Value → Heap → Prop} {W : Nat} {argsL : List Value}
    (w1 : (Jvm.Cond.methodLink own index y).before a0 Z = true) (w2 : (Jvm.Cond.static y).before a0 Z = true) (w3 : (Jvm.Cond.initialized y.cls).before a0 Z = true) (w4 : (Jvm.Cond.code y bytes maxL ret).before a0 Z = true) (hy : y.cls ≠ "java/lang/invoke/MethodHandle" ∧ y.cls ≠ "java/lang/invoke/VarHandle")
    (hM : Met l Z EL y bytes maxL ret rm as' h S' ws' P) (hS : ∀ x ∈ S', x ∈ S) (hws : ∀ x ∈ ws', x ∈ ws ∨ h0.size ≤ x) (hlen : ∀ sig, parseMethodDescriptor y.desc = some sig → argsL.length = sig.parameters.length) (ha : argsL.toArray = as') (hst : st = argsL.reverse ++ rest) (hd : decode c.code pc = .ok (.invokestatic index, 3)) (hsz : Ls.size = c.maxLocals)
    (hW : (rest.map fun v => v.category).sum ≤ W) (hf : rm.frames + 1 ≤ R.frames) (hl : W + (maxL + 11) + rm.locals ≤ R.locals) (hc : cells + rm.cells ≤ R.cells) (hsl : slots + rm.slots ≤ R.slots) (hp : pc + 3 = pc')
    (k : ∀ v T' h', Wk p l e R s m args below meth c Z EL own h0 ws T' h' (cells + rm.cells) (slots + rm.slots) S → Keep h h' ws' → P v h' → Run p e below Q T' (mkF m pc' Ls (v.toList ++ rest))) : Run p e below Q T (mkF m pc Ls st) :=
  w_staticN w hEL w1 w2 w3 w4 hy hM hS hws hlen ha hst hd hsz hW hf hl hc hsl hp fun v N T' h' w' K' P' => by obtain ⟨rfl, P'⟩ := P'; exact k v T' h' w' K' P'
theorem w_special (w : Wk p l e R s m args below meth c Z EL own h0 ws T h cells slots S) (hEL : EW Z a0 EL) {index : Nat} {y : MethodName} {bytes : ByteArray} {maxL : Nat} {rm : Room} {as' : Array Value} {S' ws' : List Addr} {P : Option Value → Heap → Prop} {W : Nat} {a : Addr} {argsL : List Value}
    (hy1 : y.name = "<init>") (w1 : (Jvm.Cond.methodLink own index y).before a0 Z = true) (w2 : (Jvm.Cond.instanceMethod y).before a0 Z = true) (w3 : (Jvm.Cond.initialized y.cls).before a0 Z = true) (w4 : (Jvm.Cond.code y bytes maxL none).before a0 Z = true) (hy : y.cls ≠ "java/lang/invoke/MethodHandle" ∧ y.cls ≠ "java/lang/invoke/VarHandle")
    (hM : Met l Z EL y bytes maxL none rm as' h S' ws' P) (hS : ∀ x ∈ S', x ∈ S) (hws : ∀ x ∈ ws', x ∈ ws ∨ h0.size ≤ x) (hlen : ∀ sig, parseMethodDescriptor y.desc = some sig → argsL.length = sig.parameters.length) (ha : (Value.ref a :: argsL).toArray = as') (hst : st = argsL.reverse ++ .ref a :: rest) (hd : decode c.code pc = .ok (.invokespecial index, 3)) (hsz : Ls.size = c.maxLocals)
    (hW : (rest.map fun v => v.category).sum ≤ W) (hf : rm.frames + 1 ≤ R.frames) (hl : W + (maxL + 11) + rm.locals ≤ R.locals) (hc : cells + rm.cells ≤ R.cells) (hsl : slots + rm.slots ≤ R.slots) (hp : pc + 3 = pc')
    (k : ∀ v T' h', Wk p l e R s m args below meth c Z EL own h0 ws T' h' (cells + rm.cells) (slots + rm.slots) S → Keep h h' ws' → P v h' → Run p e below Q T' (mkF m pc' Ls (v.toList ++ rest))) : Run p e below Q T (mkF m pc Ls st) :=
  w_specialN w hEL hy1 w1 w2 w3 w4 hy hM hS hws hlen ha hst hd hsz hW hf hl hc hsl hp fun v N T' h' w' K' P' => by obtain ⟨rfl, P'⟩ := P'; exact k v T' h' w' K' P'
theorem w_virtual (w : Wk p l e R s m args below meth c Z EL own h0 ws T h cells slots S) (hEL : EW Z a0 EL) {index : Nat} {y y' : MethodName} {C : String} {bytes : ByteArray} {maxL : Nat} {ret : Option FieldType} {rm : Room} {as' : Array Value} {S' ws' : List Addr} {P : Option Value → Heap → Prop} {W : Nat} {a : Addr} {argsL : List Value}
    (w1 : (Jvm.Cond.methodLink own index y).before a0 Z = true) (w2 : (Jvm.Cond.declares y).before a0 Z = true) (w5 : (Jvm.Cond.selects y.cls y y).before a0 Z = true) (w6 : (Jvm.Cond.selects C y y').before a0 Z = true) (w7 : (Jvm.Cond.instanceMethod y').before a0 Z = true) (w3 : (Jvm.Cond.initialized y'.cls).before a0 Z = true) (w4 : (Jvm.Cond.code y' bytes maxL ret).before a0 Z = true) (hy : y.cls ≠ "java/lang/invoke/MethodHandle" ∧ y.cls ≠ "java/lang/invoke/VarHandle")
    (E : Exa Z h a C) (hM : Met l Z EL y' bytes maxL ret rm as' h S' ws' P) (hS : ∀ x ∈ S', x ∈ S) (hws : ∀ x ∈ ws', x ∈ ws ∨ h0.size ≤ x) (hlen : ∀ sig, parseMethodDescriptor y.desc = some sig → argsL.length = sig.parameters.length) (ha : (Value.ref a :: argsL).toArray = as') (hst : st = argsL.reverse ++ .ref a :: rest) (hd : decode c.code pc = .ok (.invokevirtual index, 3)) (hsz : Ls.size = c.maxLocals)
    (hW : (rest.map fun v => v.category).sum ≤ W) (hf : rm.frames + 1 ≤ R.frames) (hl : W + (maxL + 11) + rm.locals ≤ R.locals) (hc : cells + rm.cells ≤ R.cells) (hsl : slots + rm.slots ≤ R.slots) (hp : pc + 3 = pc')
    (k : ∀ v T' h', Wk p l e R s m args below meth c Z EL own h0 ws T' h' (cells + rm.cells) (slots + rm.slots) S → Keep h h' ws' → P v h' → Run p e below Q T' (mkF m pc' Ls (v.toList ++ rest))) : Run p e below Q T (mkF m pc Ls st) :=
  w_virtualN w hEL w1 w2 w5 w6 w7 w3 w4 hy E hM hS hws hlen ha hst hd hsz hW hf hl hc hsl hp fun v N T' h' w' K' P' => by obtain ⟨rfl, P'⟩ := P'; exact k v T' h' w' K' P'
/-- a law of the pasted text (Back), of a virtual call that leaves the heap as it was -/
theorem w_virtB (w : Wk p l e R s m args below meth c Z EL own h0 ws T h cells slots S) {index : Nat} {y y' : MethodName} {C : String} {as' : Array Value} {Pv : Option Value → Prop} {W : Nat} {a : Addr} {argsL : List Value}
    (w1 : (Jvm.Cond.methodLink own index y).before a0 Z = true) (w2 : (Jvm.Cond.declares y).before a0 Z = true) (w5 : (Jvm.Cond.selects y.cls y y).before a0 Z = true) (w6 : (Jvm.Cond.selects C y y').before a0 Z = true) (w7 : (Jvm.Cond.instanceMethod y').before a0 Z = true) (hy : y.cls ≠ "java/lang/invoke/MethodHandle" ∧ y.cls ≠ "java/lang/invoke/VarHandle")
    (E : Exa Z h a C) (hK : ∀ vm0, Z.Warmed39 (s.setVm vm0).vm → Back l R p e below (s.setVm vm0) args y' 3 W (fun P b => b = as' ∧ P.U.heap = h ∧ P.cells + 0 ≤ R.cells ∧ P.slots + 0 ≤ R.slots) (fun P _ v B => ∃ L, (Pv v ∧ L = [] ∧ B.U.heap = h) ∧ B.locs = P.locs ++ L ∧ B.cells = P.cells + 0 ∧ B.slots = P.slots + 0))
    (hlen : ∀ sig, parseMethodDescriptor y.desc = some sig → argsL.length = sig.parameters.length) (ha : (Value.ref a :: argsL).toArray = as') (hst : st = argsL.reverse ++ .ref a :: rest) (hd : decode c.code pc = .ok (.invokevirtual index, 3)) (hsz : Ls.size = c.maxLocals)
    (hW : (rest.map fun v => v.category).sum ≤ W) (hc : cells ≤ R.cells) (hsl : slots ≤ R.slots) (hp : pc + 3 = pc')
    (k : ∀ v T', Wk p l e R s m args below meth c Z EL own h0 ws T' h cells slots S → Pv v → Run p e below Q T' (mkF m pc' Ls (v.toList ++ rest))) : Run p e below Q T (mkF m pc Ls st) := by
  obtain ⟨vm0, k0, locs, hx, X, eT, r⟩ := w
  obtain ⟨cq, kq, qa, qb, qc⟩ := isOf r.hZ eT E
  obtain ⟨v, vm1, ⟨T', L', c', n'⟩, -, X', ⟨L, ⟨q1, q2, q3⟩, y1, y2, y3⟩, stp⟩ := X.virtualBack hx r.ow (mvT r.hZ w1) (mvT r.hZ w2) (notFace_of_selects (args := #[]) (mvT r.hZ w5)) (mvT r.hZ w6) (mvT r.hZ w7) hy (hK vm0 r.hZ) qa qc (g := mkF m pc Ls st) rfl hsz (Steps.refl _) (argsL := argsL) (rest := rest) hlen hst (by show 2 * 0 + _ ≤ _; omega) hd (fun _ _ => ⟨ha, eT, hc, hsl⟩)
  dsimp only [Pt.U, Pt.locs, Pt.cells, Pt.slots] at X' q3 y1 y2 y3 stp
  subst q2 y1 y2 y3 hp
  rw [List.append_nil] at X'
  exact Run.stp stp (k v T' ⟨vm0, k0, locs, hx, X', q3, r⟩ q1)
end Kit
end Ow
end Jvm.Pilot.@@N@@


namespace Jvm.Pilot.@@N@@
open Jvm Jvm.ClassFile Sem Op Lib Jvm.Free Jvm.Stand Jvm.LawKit Jvm.RoadKit Bundle Jvm.Pilot.@@N@@.Jvm.D
namespace Ow
open StrChars StrChars.Road
abbrev wordsS : List Jvm.Cond := .stringLink ST 7 "" :: Bundle.stringAtoms
theorem e4_8 : decode New4.yB 8 = .ok (.aload_n 0, 1) := by decide +kernel
theorem e4_9 : decode New4.yB 9 = .ok (.ldc 7, 2) := by decide +kernel
theorem e4_11 : decode New4.yB 11 = .ok (.getfield 9, 3) := by decide +kernel
theorem e4_14 : decode New4.yB 14 = .ok (.putfield 9, 3) := by decide +kernel
theorem e4_17 : decode New4.yB 17 = .ok (.aload_n 0, 1) := by decide +kernel
theorem e4_18 : decode New4.yB 18 = .ok (.ldc 7, 2) := by decide +kernel
theorem e4_20 : decode New4.yB 20 = .ok (.getfield 15, 3) := by decide +kernel
theorem e4_23 : decode New4.yB 23 = .ok (.putfield 15, 3) := by decide +kernel
theorem e4_26 : decode New4.yB 26 = .ok (.return_, 1) := by decide +kernel
theorem pnS : plainName "java/lang/String" = true := by first | (simp [plainName, overriddenIn]; done) | decide +kernel
theorem ef4 (m : MethodId) (x b : Addr) : entryFrame m #[.ref x, .ref b, .int 0, .int 0, .null] 6 = mkF m 0 #[.val (.ref x), .val (.ref b), .val (.int 0), .val (.int 0), .val .null, .unset] [] := by first | (simp [entryFrame, mkF, argsToLocals, Value.category]; done) | rfl
theorem ef1 (m : MethodId) (x b : Addr) : entryFrame m #[.ref x, .ref b] 2 = mkF m 0 #[.val (.ref x), .val (.ref b)] [] := by first | (simp [entryFrame, mkF, argsToLocals, Value.category]; done) | rfl
section StrK
variable {p : Program} {l : Launch} {e : Env} {R : Room} {s : State} {m : MethodId} {args : Array Value} {below : List Frame} {meth : Method} {c : Code} {Z : State} {a0 : Array Value} {EL : List (String × Nat)} {own : String} {h0 : Heap} {ws : List Addr} {T T' : State} {h h' hB : Heap} {cells slots : Nat} {S : List Addr} {Q : Outcome → State → Prop} {pc pc' pc1 pc2 : Nat} {Ls l' : Array Slot} {rest st : List Value} {x y : Addr} {cs ds : List Int32}
/-- the String at x spells cs -/
def Str (Z : State) (h : Heap) (x : Addr) (cs : List Int32) : Prop :=
  Exa Z h x ST ∧ ∃ (t : Addr) (kb : ClassId) (cd N2 : Int32) (vs : List Value), Fld Z h x ST "value" "[B" (.ref t) ∧ Fld Z h x ST "coder" "B" (.int cd) ∧ Arv Z h t kb .byte N2 vs (.int 0) ∧ CodA cs cd N2 vs ∧ (∀ c ∈ cs, ¬ c < 0 ∧ ¬ (65535 : Int32) < c) ∧ cs.length ≤ 4000
theorem Str.ext (F : Str Z h x cs) (E : Ext h h') : Str Z h' x cs := by
  obtain ⟨a, t, kb, cd, N2, vs, q1, q2, q3, q4⟩ := F
  exact ⟨a.ext E, t, kb, cd, N2, vs, q1.ext E, q2.ext E, q3.ext E, q4⟩
theorem Str.low (A : Exa Z h x ST) {t : Addr} {kb : ClassId} {N : Int32} {n : Nat} (V : Fld Z h x ST "value" "[B" (.ref t)) (C : Fld Z h x ST "coder" "B" (.int 0)) (hn : cs.length = n) (hN : N = Int32.ofNat n) (K : Arv Z h t kb .byte N ((cs.map (fun c => c.toInt8.toInt32)).map Value.int) (.int 0)) (hp : ∀ c ∈ cs, ¬ c < 0 ∧ ¬ (255 : Int32) < c) (hl : n ≤ 4000) : Str Z h x cs := by
  subst hN hn
  refine ⟨A, t, kb, 0, _, _, V, C, K, codOf rfl fun c q => (hp c q).2, fun c q => ⟨(hp c q).1, fun z => (hp c q).2 ?_⟩, hl⟩
  have := Int32.lt_iff_toInt_lt.mp z
  rw [Int32.lt_iff_toInt_lt]
  have e1 : (65535 : Int32).toInt = 65535 := by decide
  have e2 : (255 : Int32).toInt = 255 := by decide
  omega
/-- new String(char[]): the constructor's call, of one to 4,000 signs below 256 -/
theorem w_strInitP (w : Wk p l e R s m args below meth c Z EL own h0 ws T h cells slots S) (hw1 : ∀ d ∈ StrChars.Road.words, d.before a0 Z = true) (wi : (Jvm.Cond.instantiable ST 4).before a0 Z = true) {index : Nat} (wl : (Jvm.Cond.methodLink own index New1.yN).before a0 Z = true) (wm : (Jvm.Cond.instanceMethod New1.yN).before a0 Z = true)
    {b : Addr} {v0 c0 : Value} {ka : ClassId} {N zc : Int32} {n W : Nat} {dv : Value} (E : Exa Z h x ST) (V : Fld Z h x ST "value" "[B" v0) (C : Fld Z h x ST "coder" "B" c0) (K : Arv Z h b ka .char N (cs.map Value.int) dv) (SC : Sta Z Z.heap ST "COMPACT_STRINGS" "Z" (.int zc)) (hz : ¬ zc = 0)
    (hn : cs.length = n) (hN : N = Int32.ofNat n) (h0n : 0 < n) (hl2 : n ≤ 4000) (hcs : ∀ c ∈ cs, ¬ c < 0 ∧ ¬ (255 : Int32) < c) (hxS : x ∈ S) (hx0 : x ∈ ws ∨ h0.size ≤ x) (hZx : Z.heap.size ≤ x) (hd : decode c.code pc = .ok (.invokespecial index, 3)) (hsz : Ls.size = c.maxLocals) (hW : (rest.map fun v => v.category).sum ≤ W) (hf : 4 ≤ R.frames) (hl : W + 65 ≤ R.locals) (hc : cells + 1 ≤ R.cells) (hsl : slots + n ≤ R.slots) (hp : pc + 3 = pc')
    (k : ∀ T' h', Wk p l e R s m args below meth c Z EL own h0 ws T' h' (cells + 1) (slots + n) S → Keep h h' [x] → Str Z h' x cs → Run p e below Q T' (mkF m pc' Ls rest)) : Run p e below Q T (mkF m pc Ls (.ref b :: .ref x :: rest)) := by
  obtain ⟨vm0, k0, locs, hx, X, eT, r⟩ := w
  obtain ⟨v, vm1, ⟨T', L', c', n'⟩, -, X', ⟨L, hQ, y1, y2, y3⟩, stp⟩ := X.specialBack hx (y := New1.yN) rfl r.ow (mvT r.hZ wl) (mvT r.hZ wm) (mvT r.hZ (hw1 _ (List.mem_of_getElem? (i := 0) rfl))) (by decide) (StrChars.Road.backV (W := W) r.hZ hw1 (kI := 4) wi (cs := cs) (bs := cs.map fun c => c.toInt8.toInt32) (n := n) (n0 := Z.heap.size) hZx r.old.1 E V C K (SC.ext r.old) hz hn hN h0n hl2 hcs rfl hf hl) (g := mkF m pc Ls (.ref b :: .ref x :: rest)) rfl hsz (Steps.refl _) (a := x) (argsL := [.ref b]) (rest := rest) (lenOf (by decide +kernel : parseMethodDescriptor "([C)V" = some ⟨[.array .char], none⟩) rfl) rfl (by show 2 * 0 + _ ≤ _; omega) hd (fun _ _ => ⟨rfl, eT, hc, hsl⟩)
  dsimp only [Pt.U, Pt.locs, Pt.cells, Pt.slots] at X' hQ y1 y2 y3 stp
  subst y1 y2 y3 hp
  obtain ⟨rfl, N', K', A, C', t, kb, -, -, -, V', B⟩ := hQ
  have Sx := (r.2.2.2.2.2.2.2.2.2 x hxS).2
  have hCr : CHr Z EL vm0 h vm0 T'.heap := CHr.keep K' (fun y q => by rw [List.mem_singleton.mp q]; exact Sx) r.ch
  obtain ⟨a1, a2, a3, a4, a5, a6, a7, a8, a9, a10⟩ := r
  have r' : Rs s m Z EL own h0 ws vm0 k0 (locs ++ L) T'.heap S := ⟨a1, Nat.le_trans a2 K'.1, a3, a4, a5.trans hCr, a6.app N', a7.trans K' (fun y q => by rw [List.mem_singleton.mp q]; exact hx0), a8, a9, fun y q => ⟨Nat.lt_of_lt_of_le (a10 y q).1 K'.1, hCr.safe (a10 y q).1 (a10 y q).2⟩⟩
  exact Run.stp stp (k T' T'.heap ⟨vm0, k0, _, hx, X', rfl, r'⟩ K' (Str.low A V' C' hn hN B hcs hl2))
end StrK
end Ow
end Jvm.Pilot.@@N@@


namespace Jvm.Pilot.@@N@@
open Jvm Jvm.ClassFile Sem Op Lib Jvm.Free Jvm.Stand Jvm.LawKit Jvm.RoadKit Bundle Jvm.Pilot.@@N@@.Jvm.D
namespace Ow
theorem nf_of {s : State} {a : Array Value} {C : String} {y y5 y6 : MethodName} (w : (Jvm.Cond.selects C y5 y6).before a s = true) (hc : y6.cls = y.cls) : NotFace s y := fun r0 h0 => by
  obtain ⟨c2, r2, m2, q1, q2, q3, q4, kP, hkP, hkPi⟩ := Cond.selects_spec w
  have e1 := findClass_of_methodNamed h0
  have e2 := findClass_of_methodNamed q3
  rw [hc] at e2
  have e3 : m2.cls = r0.cls := Option.some.inj (e2.symm.trans e1)
  rw [e3] at hkP
  exact ⟨kP, hkP, hkPi⟩
theorem same_of {s : State} {a : Array Value} {C : String} {y y5 y6 : MethodName} (w1 : (Jvm.Cond.declares y).before a s = true) (w : (Jvm.Cond.selects C y5 y6).before a s = true) (hc : y6.cls = y.cls) (hy : y.cls ≠ "java/lang/invoke/MethodHandle" ∧ y.cls ≠ "java/lang/invoke/VarHandle") : (Jvm.Cond.sameMethod y.cls y.cls y.name y.desc).before a s = true := by
  obtain ⟨m, me, hn, -⟩ := Cond.declares_spec w1
  have hf := State.methodFound?_of_named hn hy
  obtain ⟨k, hk, hi⟩ := nf_of w hc m hn
  have e1 := findClass_of_methodNamed hn
  have hn' : s.methodNamed? ⟨y.cls, y.name, y.desc⟩ = some m := hn
  simp [Cond.before, Cond.holds, Cond.value, e1, hf, hn', hk, hi]
theorem sel_priv {s : State} {a : Array Value} {C : String} {y y5 y6 : MethodName} (w1 : (Jvm.Cond.instanceMethod y).before a s = true) (wp : (Jvm.Cond.privateMethod y).before a s = true) (w : (Jvm.Cond.selects C y5 y6).before a s = true) (hc : y6.cls = y.cls) (hy : y.cls ≠ "java/lang/invoke/MethodHandle" ∧ y.cls ≠ "java/lang/invoke/VarHandle") : (Jvm.Cond.selects y.cls y y).before a s = true := by
  obtain ⟨m, me, hn, hm, -⟩ := Cond.instanceMethod_spec w1
  have hf := State.methodFound?_of_named hn hy
  obtain ⟨k, hk, hi⟩ := nf_of w hc m hn
  have e1 := findClass_of_methodNamed hn
  have hp := Cond.privateMethod_at wp m me hn hm
  have hs : selectMethod {} s.vm m.cls m = .method m := selectMethod_private hm hp
  simp [Cond.before, Cond.holds, Cond.value, e1, hf, hn, hk, hi, hs]
section Kit4
variable {p : Program} {l : Launch} {e : Env} {R : Room} {s : State} {m : MethodId} {args : Array Value} {below : List Frame} {meth : Method} {c : Code} {Z : State} {a0 : Array Value} {EL : List (String × Nat)} {own : String} {h0 : Heap} {ws : List Addr} {T T' : State} {h h' hB : Heap} {cells slots : Nat} {S : List Addr} {Q : Outcome → State → Prop} {pc pc' pc1 pc2 : Nat} {Ls l' : Array Slot} {rest st : List Value}
theorem w_virtualK (w : Wk p l e R s m args below meth c Z EL own h0 ws T h cells slots S) (hEL : EW Z a0 EL) {index : Nat} {y y' y5 y6 : MethodName} {C C5 : String} {bytes : ByteArray} {maxL : Nat} {ret : Option FieldType} {rm : Room} {as' : Array Value} {S' ws' : List Addr} {P : Option Value → Heap → List Addr → Prop} {W : Nat} {a : Addr} {argsL : List Value}
    (w1 : (Jvm.Cond.methodLink own index y).before a0 Z = true) (w2 : (Jvm.Cond.declares y).before a0 Z = true) (w5 : (Jvm.Cond.selects C5 y5 y6).before a0 Z = true) (h5 : y6.cls = y.cls) (w6 : (Jvm.Cond.selects C y y').before a0 Z = true) (w7 : (Jvm.Cond.instanceMethod y').before a0 Z = true) (w3 : (Jvm.Cond.initialized y'.cls).before a0 Z = true) (w4 : (Jvm.Cond.code y' bytes maxL ret).before a0 Z = true) (hy : y.cls ≠ "java/lang/invoke/MethodHandle" ∧ y.cls ≠ "java/lang/invoke/VarHandle")
    (E : Exa Z h a C) (hM : MetN l Z EL y' bytes maxL ret rm as' h S' ws' P) (hS : ∀ x ∈ S', x ∈ S) (hws : ∀ x ∈ ws', x ∈ ws ∨ h0.size ≤ x) (hlen : ∀ sig, parseMethodDescriptor y.desc = some sig → argsL.length = sig.parameters.length) (ha : (Value.ref a :: argsL).toArray = as') (hst : st = argsL.reverse ++ .ref a :: rest) (hd : decode c.code pc = .ok (.invokevirtual index, 3)) (hsz : Ls.size = c.maxLocals)
    (hW : (rest.map fun v => v.category).sum ≤ W) (hf : rm.frames + 1 ≤ R.frames) (hl : W + (maxL + 11) + rm.locals ≤ R.locals) (hc : cells + rm.cells ≤ R.cells) (hsl : slots + rm.slots ≤ R.slots) (hp : pc + 3 = pc')
    (k : ∀ v N T' h', Wk p l e R s m args below meth c Z EL own h0 ws T' h' (cells + rm.cells) (slots + rm.slots) (N ++ S) → Keep h h' ws' → P v h' N → Run p e below Q T' (mkF m pc' Ls (v.toList ++ rest))) : Run p e below Q T (mkF m pc Ls st) := by
  obtain ⟨vm0, k0, locs, hx, X, eT, r⟩ := w
  have hn := r.old
  have hb := MetN.back (R := R) (p := p) (e := e) (below := below) (s := s) (args := args) (len := 3) (W := W) hM r.hZ w4 w3 hf hl hEL r.ch hn (fun x q => (hws x q).elim (r.2.2.2.2.2.2.2.2.1 x) (Nat.le_trans r.2.2.2.2.2.2.2.1.1)) (fun x q => r.2.2.2.2.2.2.2.2.2 x (hS x q))
  obtain ⟨cq, kq, qa, qb, qc⟩ := isOf r.hZ eT E
  obtain ⟨v, vm1, ⟨T', L', c', n'⟩, -, X', hSi, hg, ⟨L, ⟨q1, q2, N, q3, qN⟩, y1, y2, y3, hC⟩, stp⟩ := X.virtualBackS hx r.ow (mvT r.hZ w1) (mvT r.hZ w2) (nf_of (a := #[]) (mvT r.hZ w5) h5) (mvT r.hZ w6) (mvT r.hZ w7) hy hb qa qc (g := mkF m pc Ls st) rfl hsz (Steps.refl _) (argsL := argsL) (rest := rest) hlen hst (by show 2 * 0 + _ ≤ _; omega) hd (fun _ _ => ⟨ha, eT, hc, hsl⟩)
  dsimp only [Pt.U, Pt.locs, Pt.cells, Pt.slots] at X' hSi hg q2 q3 qN y1 y2 y3 hC stp
  subst y1 y2 y3 hp
  exact Run.stp stp (k v N T' T'.heap ⟨T'.vm, _, _, hx, X', rfl, (r.call hSi hC q1 q2 hws).adds qN⟩ q2 q3)
theorem w_privateN (w : Wk p l e R s m args below meth c Z EL own h0 ws T h cells slots S) (hEL : EW Z a0 EL) {index : Nat} {y y5 y6 : MethodName} {C C5 : String} {bytes : ByteArray} {maxL : Nat} {ret : Option FieldType} {rm : Room} {as' : Array Value} {S' ws' : List Addr} {P : Option Value → Heap → List Addr → Prop} {W : Nat} {a : Addr} {argsL : List Value}
    (w1 : (Jvm.Cond.methodLink own index y).before a0 Z = true) (w5 : (Jvm.Cond.selects C5 y5 y6).before a0 Z = true) (h5 : y6.cls = y.cls) (w8 : (Jvm.Cond.privateMethod y).before a0 Z = true) (w7 : (Jvm.Cond.instanceMethod y).before a0 Z = true) (w3 : (Jvm.Cond.initialized y.cls).before a0 Z = true) (w4 : (Jvm.Cond.code y bytes maxL ret).before a0 Z = true) (hy : y.cls ≠ "java/lang/invoke/MethodHandle" ∧ y.cls ≠ "java/lang/invoke/VarHandle")
    (E : Exa Z h a C) (hM : MetN l Z EL y bytes maxL ret rm as' h S' ws' P) (hS : ∀ x ∈ S', x ∈ S) (hws : ∀ x ∈ ws', x ∈ ws ∨ h0.size ≤ x) (hlen : ∀ sig, parseMethodDescriptor y.desc = some sig → argsL.length = sig.parameters.length) (ha : (Value.ref a :: argsL).toArray = as') (hst : st = argsL.reverse ++ .ref a :: rest) (hd : decode c.code pc = .ok (.invokevirtual index, 3)) (hsz : Ls.size = c.maxLocals)
    (hW : (rest.map fun v => v.category).sum ≤ W) (hf : rm.frames + 1 ≤ R.frames) (hl : W + (maxL + 11) + rm.locals ≤ R.locals) (hc : cells + rm.cells ≤ R.cells) (hsl : slots + rm.slots ≤ R.slots) (hp : pc + 3 = pc')
    (k : ∀ v N T' h', Wk p l e R s m args below meth c Z EL own h0 ws T' h' (cells + rm.cells) (slots + rm.slots) (N ++ S) → Keep h h' ws' → P v h' N → Run p e below Q T' (mkF m pc' Ls (v.toList ++ rest))) : Run p e below Q T (mkF m pc Ls st) := by
  obtain ⟨vm0, k0, locs, hx, X, eT, r⟩ := w
  have hn := r.old
  have hb := MetN.back (R := R) (p := p) (e := e) (below := below) (s := s) (args := args) (len := 3) (W := W) hM r.hZ w4 w3 hf hl hEL r.ch hn (fun x q => (hws x q).elim (r.2.2.2.2.2.2.2.2.1 x) (Nat.le_trans r.2.2.2.2.2.2.2.1.1)) (fun x q => r.2.2.2.2.2.2.2.2.2 x (hS x q))
  obtain ⟨cell, kc, g1, g2, g3, g4, -⟩ := E
  obtain ⟨v, vm1, ⟨T', L', c', n'⟩, -, X', hSi, hg, ⟨L, ⟨q1, q2, N, q3, qN⟩, y1, y2, y3, hC⟩, stp⟩ := X.privateBackS hx r.ow (mvT r.hZ w1) (mvT r.hZ w7) (sel_priv (mvT r.hZ w7) (mvT r.hZ w8) (mvT r.hZ w5) h5 hy) (Cond.privateMethod_at (args := #[]) (mvT r.hZ w8)) (mvT r.hZ w4) hy hb (g := mkF m pc Ls st) rfl hsz (Steps.refl _) (a := a) (cell := cell) (by rw [eT]; exact g1) (fun q e => by rw [e] at g4; cases g4) (argsL := argsL) (rest := rest) hlen hst (by show 2 * 0 + _ ≤ _; omega) hd (fun _ _ => ⟨ha, eT, hc, hsl⟩)
  dsimp only [Pt.U, Pt.locs, Pt.cells, Pt.slots] at X' hSi hg q2 q3 qN y1 y2 y3 hC stp
  subst y1 y2 y3 hp
  exact Run.stp stp (k v N T' T'.heap ⟨T'.vm, _, _, hx, X', rfl, (r.call hSi hC q1 q2 hws).adds qN⟩ q2 q3)
theorem w_superN (w : Wk p l e R s m args below meth c Z EL own h0 ws T h cells slots S) (hEL : EW Z a0 EL) {index : Nat} {y y5 y6 : MethodName} {C C5 : String} {bytes : ByteArray} {maxL : Nat} {ret : Option FieldType} {rm : Room} {as' : Array Value} {S' ws' : List Addr} {P : Option Value → Heap → List Addr → Prop} {W : Nat} {a : Addr} {argsL : List Value}
    (hy1 : y.name ≠ "<init>") (w1 : (Jvm.Cond.methodLink own index y).before a0 Z = true) (w2 : (Jvm.Cond.declares y).before a0 Z = true) (w5 : (Jvm.Cond.selects C5 y5 y6).before a0 Z = true) (h5 : y6.cls = y.cls) (w8 : (Jvm.Cond.superclass own y.cls).before a0 Z = true) (w7 : (Jvm.Cond.instanceMethod y).before a0 Z = true) (w3 : (Jvm.Cond.initialized y.cls).before a0 Z = true) (w4 : (Jvm.Cond.code y bytes maxL ret).before a0 Z = true) (hy : y.cls ≠ "java/lang/invoke/MethodHandle" ∧ y.cls ≠ "java/lang/invoke/VarHandle")
    (E : Exa Z h a C) (hM : MetN l Z EL y bytes maxL ret rm as' h S' ws' P) (hS : ∀ x ∈ S', x ∈ S) (hws : ∀ x ∈ ws', x ∈ ws ∨ h0.size ≤ x) (hlen : ∀ sig, parseMethodDescriptor y.desc = some sig → argsL.length = sig.parameters.length) (ha : (Value.ref a :: argsL).toArray = as') (hst : st = argsL.reverse ++ .ref a :: rest) (hd : decode c.code pc = .ok (.invokespecial index, 3)) (hsz : Ls.size = c.maxLocals)
    (hW : (rest.map fun v => v.category).sum ≤ W) (hf : rm.frames + 1 ≤ R.frames) (hl : W + (maxL + 11) + rm.locals ≤ R.locals) (hc : cells + rm.cells ≤ R.cells) (hsl : slots + rm.slots ≤ R.slots) (hp : pc + 3 = pc')
    (k : ∀ v N T' h', Wk p l e R s m args below meth c Z EL own h0 ws T' h' (cells + rm.cells) (slots + rm.slots) (N ++ S) → Keep h h' ws' → P v h' N → Run p e below Q T' (mkF m pc' Ls (v.toList ++ rest))) : Run p e below Q T (mkF m pc Ls st) := by
  obtain ⟨vm0, k0, locs, hx, X, eT, r⟩ := w
  have hn := r.old
  have hb := MetN.back (R := R) (p := p) (e := e) (below := below) (s := s) (args := args) (len := 3) (W := W) hM r.hZ w4 w3 hf hl hEL r.ch hn (fun x q => (hws x q).elim (r.2.2.2.2.2.2.2.2.1 x) (Nat.le_trans r.2.2.2.2.2.2.2.1.1)) (fun x q => r.2.2.2.2.2.2.2.2.2 x (hS x q))
  obtain ⟨v, vm1, ⟨T', L', c', n'⟩, -, X', hSi, hg, ⟨L, ⟨q1, q2, N, q3, qN⟩, y1, y2, y3, hC⟩, stp⟩ := superBackS X hx r.hZ r.ow w1 (same_of w2 w5 h5 hy) w7 w8 hy1 hb eT (Ins.self E) (g := mkF m pc Ls st) rfl hsz w4 (argsL := argsL) (rest := rest) hlen hst (by show 2 * 0 + _ ≤ _; omega) hd (fun _ _ => ⟨ha, eT, hc, hsl⟩)
  dsimp only [Pt.U, Pt.locs, Pt.cells, Pt.slots] at X' hSi hg q2 q3 qN y1 y2 y3 hC stp
  subst y1 y2 y3 hp
  exact Run.stp stp (k v N T' T'.heap ⟨T'.vm, _, _, hx, X', rfl, (r.call hSi hC q1 q2 hws).adds qN⟩ q2 q3)
/-- System.arraycopy of bytes -/
theorem w_copyB (w : Wk p l e R s m args below meth c Z EL own h0 ws T h cells slots S) {index : Nat} (w1 : (Jvm.Cond.methodLink own index Jvm.Stand.acN).before a0 Z = true) (w2 : (Jvm.Cond.native Jvm.Stand.acN).before a0 Z = true) (w3 : (Jvm.Cond.static Jvm.Stand.acN).before a0 Z = true) (w4 : (Jvm.Cond.initialized "java/lang/System").before a0 Z = true)
    {a b : Addr} {ka kb : ClassId} {z z' sp dp nn : Int32} {vs vd us : List Value} {dv dd : Value} {is id n W : Nat} (A : Arv Z h a ka .byte z vs dv) (B : Arv Z h b kb .byte z' vd dd) (h1 : sp = Int32.ofNat is) (h2 : dp = Int32.ofNat id) (h3 : nn = Int32.ofNat n) (b1 : is ≤ 4000) (b2 : id ≤ 4000) (b3 : n ≤ 4000)
    (h4 : is + n ≤ z.toNatClampNeg) (h5 : id + n ≤ z'.toNatClampNeg) (hus : us = (List.range n).map fun i => vs.getD (is + i) dv) (hlv : id + n ≤ vd.length) (hS : b ∈ S) (q : b ∈ ws ∨ h0.size ≤ b) (hst : st = .int nn :: .int dp :: .ref b :: .int sp :: .ref a :: rest) (hd : decode c.code pc = .ok (.invokestatic index, 3)) (hsz : Ls.size = c.maxLocals)
    (hf : 1 ≤ R.frames) (hW : (rest.map fun v => v.category).sum ≤ W) (hlo : W + (nativeFrameWords "java/lang/System" "arraycopy" 5 + 11) ≤ R.locals) (hp : pc + 3 = pc')
    (k : ∀ T' h', Wk p l e R s m args below meth c Z EL own h0 ws T' h' cells slots S → Keep h h' [b] → Arv Z h' b kb .byte z' (vd.take id ++ us ++ vd.drop (id + n)) dd → Run p e below Q T' (mkF m pc' Ls rest)) : Run p e below Q T (mkF m pc Ls st) := by
  obtain ⟨vm0, k0, locs, hx, X, eT, r⟩ := w
  have cl : ∀ j : Nat, j ≤ 4000 → (Int32.ofNat j).toNatClampNeg = j := fun j hj => by
    show (Int32.ofNat j).toInt.toNat = j
    rw [Int32.toInt_ofNat_of_lt (by omega)]; rfl
  have nl : ∀ j : Nat, j ≤ 4000 → ¬ (Int32.ofNat j) < 0 := fun j hj => by
    have e : (0 : Int32).toInt = 0 := rfl
    rw [Int32.lt_iff_toInt_lt, Int32.toInt_ofNat_of_lt (by omega), e]; omega
  subst h1 h2 h3 hp hst
  obtain ⟨a1, a2, a3, a4, a5, a6, a7, a8, a9, a10⟩ := r
  have ge : Z.heap.size ≤ b := q.elim (a9 b) (fun z => Nat.le_trans a8.1 z)
  obtain ⟨T', h', L, X', e', N', K', B', stp⟩ := cpA X hx a3 a4 w1 w2 w3 w4 eT A B (Or.inl ⟨rfl, rfl⟩) (nl is b1) (nl id b2) (nl n b3) (by rw [cl is b1, cl n b3]; exact h4) (by rw [cl id b2, cl n b3]; exact h5) (us := us) (by rw [cl is b1, cl n b3]; exact hus) (by rw [cl id b2, cl n b3]; exact hlv) (n0 := Z.heap.size) a6 ge (g := mkF m pc Ls (.int (Int32.ofNat n) :: .int (Int32.ofNat id) :: .ref b :: .int (Int32.ofNat is) :: .ref a :: rest)) rfl hsz rfl hd hf (W := W) (by show 2 * 0 + _ ≤ _; omega) hlo
  rw [cl id b2, cl n b3] at B'
  have Sb := (a10 b hS).2
  have hCr : CHr Z EL vm0 h vm0 h' := CHr.keep K' (fun y z => by rw [List.mem_singleton.mp z]; exact Sb) a5.1
  have r' : Rs s m Z EL own h0 ws vm0 k0 L h' S := ⟨a1, Nat.le_trans a2 K'.1, a3, a4, a5.trans hCr, N', a7.trans K' (fun y z => by rw [List.mem_singleton.mp z]; exact q), a8, a9, fun y z => ⟨Nat.lt_of_lt_of_le (a10 y z).1 K'.1, hCr.safe (a10 y z).1 (a10 y z).2⟩⟩
  exact Run.to stp (k T' h' ⟨vm0, k0, L, hx, X', e', r'⟩ K' B')
end Kit4
end Ow
end Jvm.Pilot.@@N@@

namespace Jvm.Pilot.@@N@@
open Jvm Jvm.ClassFile Sem Op Lib Jvm.Free Jvm.Stand Jvm.LawKit Jvm.RoadKit Bundle Jvm.Pilot.@@N@@.Jvm.D
namespace Ow
open StrChars StrChars.Road

/-! plain facts on ints -/
def Lat (c : Int32) : Prop := ¬ c < 0 ∧ ¬ (255 : Int32) < c
theorem i32_0 : (0 : Int32).toInt = 0 := by decide
theorem i32_255 : (255 : Int32).toInt = 255 := by decide
theorem lat_iff {c : Int32} : Lat c ↔ 0 ≤ c.toInt ∧ c.toInt ≤ 255 := by
  unfold Lat
  rw [Int32.lt_iff_toInt_lt, Int32.lt_iff_toInt_lt, i32_0, i32_255]
  omega
theorem nar_char (x : Int32) : nar .char x = x.toUInt32.toUInt16.toUInt32.toInt32 := rfl
theorem nar_id {c : Int32} (h : 0 ≤ c.toInt ∧ c.toInt < 65536) : nar .char c = c := by
  have q := c_i2c c
  rw [← nar_char] at q
  rw [← Int32.toInt_inj]
  omega
theorem Lat.nar {c : Int32} (h : Lat c) : nar .char c = c := nar_id (by have := lat_iff.mp h; omega)
theorem lat_mask (x : Int32) : Lat (Jvm.RoadKit.nar .char (x &&& 255)) := by
  have q := c_i2c (x &&& 255)
  rw [← nar_char] at q
  have m := c_mask x 255 8 (by decide) (by decide)
  rw [lat_iff]
  omega
theorem mask_le (x : Int32) (m : Int32) (k : Nat) (hk : k ≤ 31) (hm : m.toBitVec.toNat = 2 ^ k - 1) : 0 ≤ (x &&& m).toInt ∧ (x &&& m).toInt < (2 ^ k : Nat) := by
  rw [c_mask x m k hk hm]
  have : (0 : Int) < (2 ^ k : Nat) := by exact_mod_cast Nat.pos_of_ne_zero (by simp)
  exact ⟨Int.emod_nonneg _ (by omega), Int.emod_lt_of_pos _ this⟩
theorem toInt_eq {x y : Int32} {n : Int} (h : x.toInt = n) (hy : y.toInt = n) : x = y := Int32.toInt_inj.mp (h.trans hy.symm)
theorem and3 (x : Int32) : x &&& 3 = 0 ∨ x &&& 3 = 1 ∨ x &&& 3 = 2 ∨ x &&& 3 = 3 := by
  have m := mask_le x 3 2 (by decide) (by decide)
  have h : (x &&& 3).toInt = 0 ∨ (x &&& 3).toInt = 1 ∨ (x &&& 3).toInt = 2 ∨ (x &&& 3).toInt = 3 := by omega
  rcases h with h | h | h | h
  · exact Or.inl (toInt_eq h (by decide))
  · exact Or.inr (Or.inl (toInt_eq h (by decide)))
  · exact Or.inr (Or.inr (Or.inl (toInt_eq h (by decide))))
  · exact Or.inr (Or.inr (Or.inr (toInt_eq h (by decide))))
theorem rem3 (x : Int32) : (x &&& 3) % 3 = 0 ∨ (x &&& 3) % 3 = 1 ∨ (x &&& 3) % 3 = 2 := by
  rcases and3 x with h | h | h | h <;> rw [h] <;> decide
theorem ne_int {args : Array Value} {s : State} {t : Term} {n x : Int32} (ht : t.eval args s none [] s = some (.int x)) (h : (Jvm.Cond.not (.eq t (.int n))).before args s = true) : ¬ x = n := by
  intro q; subst q
  have h1 := not_v (Cond.before_iff.mp h)
  have hi : (Term.int x).eval args s none [] s = some (.int x) := rfl
  simp only [Jvm.Cond.value, ht, hi] at h1
  simp at h1
theorem eq_int {args : Array Value} {s : State} {t : Term} {n : Int32} (h : (Jvm.Cond.eq t (.int n)).value args s none s [] = some true) : t.eval args s none [] s = some (.int n) := by
  cases ht : t.eval args s none [] s with
  | none => simp [Jvm.Cond.value, ht] at h
  | some v => cases v <;> simp [Jvm.Cond.value, ht, Term.eval] at h ⊢; exact h
theorem flag {e : Int32} {A : Prop} (h : (e = 1 ∧ A) ∨ (e = 0 ∧ ¬ A)) : ¬ e = 0 ↔ A := by
  rcases h with ⟨rfl, q⟩ | ⟨rfl, q⟩
  · exact ⟨fun _ => q, fun _ => by decide⟩
  · exact ⟨fun z => absurd rfl z, fun z => absurd z q⟩
theorem val {e f : Int32} {A B : Prop} [Decidable B] (h : (e = 1 ∧ A) ∨ (e = 0 ∧ ¬ A)) (hf : (if B then (1 : Int32) else 0) = f) (hab : B ↔ A) : f = e := by
  rw [← hf]
  rcases h with ⟨rfl, q⟩ | ⟨rfl, q⟩
  · exact if_pos (hab.mpr q)
  · exact if_neg fun z => q (hab.mp z)

theorem sub1 : ∀ d ∈ StrChars.Road.words, d ∈ tables_1 := by decide +kernel
theorem subA : ∀ d ∈ Bundle.stringAtoms, d ∈ tables_1 := by decide +kernel
def Gl (Z : State) (a0 : Array Value) (zc : Int32) (fm : Value) : Prop :=
  (∀ d ∈ tables_1, d.before a0 Z = true) ∧ EW Z a0 consts_1 ∧ Sta Z Z.heap ST "COMPACT_STRINGS" "Z" (.int zc) ∧ ¬ zc = 0 ∧ (Sta Z Z.heap "jdk/internal/util/Preconditions" "SIOOBE_FORMATTER" "Ljava/util/function/BiFunction;" fm) ∧ (fm.isRef = true) ∧ (Sta Z Z.heap "java/lang/StringUTF16" "$assertionsDisabled" "Z" (.int 1)) ∧ (Sta Z Z.heap "java/lang/StringUTF16" "HI_BYTE_SHIFT" "I" (.int 0)) ∧ (Sta Z Z.heap "java/lang/StringUTF16" "LO_BYTE_SHIFT" "I" (.int 8))
theorem Str.lat {Z : State} {h : Heap} {x : Addr} {cs : List Int32} (F : Str Z h x cs) (hc : ∀ c ∈ cs, Lat c) : ∃ t kb, Fld Z h x ST "value" "[B" (.ref t) ∧ Fld Z h x ST "coder" "B" (.int 0) ∧ Arv Z h t kb .byte (Int32.ofNat cs.length) (cs.map fun c => Value.int (lo8 c)) (.int 0) ∧ cs.length ≤ 4000 := by
  obtain ⟨a, t, kb, cd, N2, vs, q1, q2, q3, q4, q5, q6⟩ := F
  rcases q4 with ⟨rfl, rfl, rfl, -⟩ | ⟨-, -, -, c, z1, z2⟩
  · exact ⟨t, kb, q1, q2, q3, q6⟩
  · exact absurd z2 (hc c z1).2
theorem ofNat_lt {n : Nat} (h : n ≤ 4000) : ¬ (Int32.ofNat n) < 0 := by
  rw [Int32.lt_iff_toInt_lt, Int32.toInt_ofNat_of_lt (by omega), i32_0]; omega
theorem ofNat_nat {n : Nat} (h : n ≤ 4000) : (Int32.ofNat n).toNatClampNeg = n := by
  show (Int32.ofNat n).toInt.toNat = n
  rw [Int32.toInt_ofNat_of_lt (by omega)]; rfl
theorem ofNat_cmp {n k : Nat} (h : n ≤ 4000) (h' : k ≤ 4000) : Int32.ofNat n < Int32.ofNat k ↔ n < k := by
  rw [Int32.lt_iff_toInt_lt, Int32.toInt_ofNat_of_lt (by omega), Int32.toInt_ofNat_of_lt (by omega)]; omega
theorem ofNat_succ (n : Nat) : Int32.ofNat n + 1 = Int32.ofNat (n + 1) := by
  rw [Int32.ofNat_add]; rfl

theorem nar_byte (x : Int32) : nar .byte x.toInt8.toInt32 = x.toInt8.toInt32 := by show x.toInt8.toInt32.toInt8.toInt32 = _; simp
def Chr (c : Int32) : Prop := ¬ c < 0 ∧ ¬ (65535 : Int32) < c
theorem mapI_getD {cs : List Int32} {j : Nat} (h : j < cs.length) : (cs.map Value.int).getD j (.int 0) = .int (cs.getD j 0) := by
  simp [List.getD, h]
theorem getD_memC {cs : List Int32} {j : Nat} (h : j < cs.length) : cs.getD j 0 ∈ cs := by simp [List.getD, h]
theorem fill_step {f : Int32 → Value} {v : Value} : ∀ (cs : List Int32) (j : Nat), j < cs.length → (((cs.take j).map f) ++ List.replicate (cs.length - j) v).set j (f (cs.getD j 0)) = ((cs.take (j + 1)).map f) ++ List.replicate (cs.length - (j + 1)) v
  | [], j, h => absurd h (Nat.not_lt_zero j)
  | c :: cs, 0, _ => by simp [List.replicate_succ]
  | c :: cs, j + 1, h => by
    have q := fill_step (f := f) (v := v) cs j (by simpa using h)
    simpa using q
theorem wide_step {v : Value} : ∀ (cs : List Int32) (j : Nat), j < cs.length → ((wideBytes (cs.take j) ++ List.replicate (2 * (cs.length - j)) v).set (2 * j) (.int (lo8 (cs.getD j 0)))).set (2 * j + 1) (.int (hi8 (cs.getD j 0))) = wideBytes (cs.take (j + 1)) ++ List.replicate (2 * (cs.length - (j + 1))) v
  | [], j, h => absurd h (Nat.not_lt_zero j)
  | c :: cs, 0, _ => by
    rw [show 2 * ((c :: cs).length - 0) = 2 * cs.length + 1 + 1 from by simp; omega]
    simp [List.replicate_succ, wideBytes]
  | c :: cs, j + 1, h => by
    have q := wide_step (v := v) cs j (by simpa using h)
    rw [show 2 * (j + 1) = 2 * j + 1 + 1 from by omega]
    simpa [wideBytes] using q
theorem take_mem {cs : List Int32} {j : Nat} {c : Int32} (h : j < cs.length) (q : c ∈ cs.take (j + 1)) : c ∈ cs.take j ∨ c = cs.getD j 0 := by
  rw [List.take_add_one, List.mem_append] at q
  rcases q with q | q
  · exact Or.inl q
  · right
    simp [h] at q
    simp [List.getD, h, q]
theorem wide_len : ∀ cs : List Int32, (wideBytes cs).length = 2 * cs.length
  | [] => rfl
  | c :: cs => by simp [wideBytes, wide_len cs]; omega
theorem ofN_shl_ : ∀ n : Fin 33, (Int32.ofNat n.val) <<< ((1 : Int32) &&& 31) = Int32.ofNat (2 * n.val) := by decide
theorem ofN_shl {n : Nat} (h : n ≤ 32) : (Int32.ofNat n) <<< ((1 : Int32) &&& 31) = Int32.ofNat (2 * n) := ofN_shl_ ⟨n, by omega⟩
theorem ofN_inj {n k : Nat} (h : n ≤ 4000) (h' : k ≤ 4000) (q : Int32.ofNat n = Int32.ofNat k) : n = k := by
  have e := congrArg Int32.toNatClampNeg q
  rwa [ofNat_nat h, ofNat_nat h'] at e
theorem cdr0_ : ∀ n : Fin 33, (XT.ushr (Int32.ofNat n.val - Int32.ofNat n.val) 31).toInt8.toInt32 = 0 := by decide
theorem cdr1_ : ∀ n : Fin 33, 0 < n.val → (XT.ushr (Int32.ofNat n.val - Int32.ofNat (2 * n.val)) 31).toInt8.toInt32 = 1 := by decide
theorem coda_coder {cs : List Int32} {cd N N2 : Int32} {vs : List Value} (C : CodA cs cd N2 vs) (hN : N = Int32.ofNat cs.length) (h0 : 0 < cs.length) (hl : cs.length ≤ 32) : (XT.ushr (N - N2) 31).toInt8.toInt32 = cd := by
  subst hN
  rcases C with ⟨rfl, rfl, -, -⟩ | ⟨rfl, rfl, -, -⟩
  · exact cdr0_ ⟨cs.length, by omega⟩
  · exact cdr1_ ⟨cs.length, by omega⟩ h0
theorem coda_bit {cs : List Int32} {cd N2 : Int32} {vs : List Value} (C : CodA cs cd N2 vs) : narrow .byte (.int cd) = .int cd ∧ fits .byte (.int cd) = true := by
  rcases C with ⟨rfl, -⟩ | ⟨rfl, -⟩
  · exact ⟨rfl, rfl⟩
  · exact ⟨rfl, rfl⟩
theorem allP {x : Addr} {P : Addr → Prop} (q : P x) : ∀ y ∈ [x], P y := fun y z => by rw [List.mem_singleton.mp z]; exact q

theorem dgch_0 : decode jdk_52_method_5_code 0 = .ok (.getstatic 44, 3) := by decide +kernel
theorem dgch_3 : decode jdk_52_method_5_code 3 = .ok (.ifCond .ne 25, 3) := by decide +kernel
theorem dgch_6 : decode jdk_52_method_5_code 6 = .ok (.iload_n 1, 1) := by decide +kernel
theorem dgch_7 : decode jdk_52_method_5_code 7 = .ok (.ifCond .lt 11, 3) := by decide +kernel
theorem dgch_10 : decode jdk_52_method_5_code 10 = .ok (.iload_n 1, 1) := by decide +kernel
theorem dgch_11 : decode jdk_52_method_5_code 11 = .ok (.aload_n 0, 1) := by decide +kernel
theorem dgch_12 : decode jdk_52_method_5_code 12 = .ok (.invokestatic 48, 3) := by decide +kernel
theorem dgch_15 : decode jdk_52_method_5_code 15 = .ok (.if_icmp .lt 13, 3) := by decide +kernel
theorem dgch_18 : decode jdk_52_method_5_code 18 = .ok (.new 52, 3) := by decide +kernel
theorem dgch_21 : decode jdk_52_method_5_code 21 = .ok (.dup, 1) := by decide +kernel
theorem dgch_22 : decode jdk_52_method_5_code 22 = .ok (.ldc 54, 2) := by decide +kernel
theorem dgch_24 : decode jdk_52_method_5_code 24 = .ok (.invokespecial 56, 3) := by decide +kernel
theorem dgch_27 : decode jdk_52_method_5_code 27 = .ok (.athrow, 1) := by decide +kernel
theorem dgch_28 : decode jdk_52_method_5_code 28 = .ok (.iload_n 1, 1) := by decide +kernel
theorem dgch_29 : decode jdk_52_method_5_code 29 = .ok (.iconst 1, 1) := by decide +kernel
theorem dgch_30 : decode jdk_52_method_5_code 30 = .ok (.ishl, 1) := by decide +kernel
theorem dgch_31 : decode jdk_52_method_5_code 31 = .ok (.istore_n 1, 1) := by decide +kernel
theorem dgch_32 : decode jdk_52_method_5_code 32 = .ok (.aload_n 0, 1) := by decide +kernel
theorem dgch_33 : decode jdk_52_method_5_code 33 = .ok (.iload_n 1, 1) := by decide +kernel
theorem dgch_34 : decode jdk_52_method_5_code 34 = .ok (.iinc 1 1, 3) := by decide +kernel
theorem dgch_37 : decode jdk_52_method_5_code 37 = .ok (.baload, 1) := by decide +kernel
theorem dgch_38 : decode jdk_52_method_5_code 38 = .ok (.sipush 255, 3) := by decide +kernel
theorem dgch_41 : decode jdk_52_method_5_code 41 = .ok (.iand, 1) := by decide +kernel
theorem dgch_42 : decode jdk_52_method_5_code 42 = .ok (.getstatic 59, 3) := by decide +kernel
theorem dgch_45 : decode jdk_52_method_5_code 45 = .ok (.ishl, 1) := by decide +kernel
theorem dgch_46 : decode jdk_52_method_5_code 46 = .ok (.aload_n 0, 1) := by decide +kernel
theorem dgch_47 : decode jdk_52_method_5_code 47 = .ok (.iload_n 1, 1) := by decide +kernel
theorem dgch_48 : decode jdk_52_method_5_code 48 = .ok (.baload, 1) := by decide +kernel
theorem dgch_49 : decode jdk_52_method_5_code 49 = .ok (.sipush 255, 3) := by decide +kernel
theorem dgch_52 : decode jdk_52_method_5_code 52 = .ok (.iand, 1) := by decide +kernel
theorem dgch_53 : decode jdk_52_method_5_code 53 = .ok (.getstatic 63, 3) := by decide +kernel
theorem dgch_56 : decode jdk_52_method_5_code 56 = .ok (.ishl, 1) := by decide +kernel
theorem dgch_57 : decode jdk_52_method_5_code 57 = .ok (.ior, 1) := by decide +kernel
theorem dgch_58 : decode jdk_52_method_5_code 58 = .ok (.i2c, 1) := by decide +kernel
theorem dgch_59 : decode jdk_52_method_5_code 59 = .ok (.ireturn, 1) := by decide +kernel
theorem pn_0 : plainName "java/lang/StringUTF16" = true := by first | (simp [plainName, overriddenIn]; done) | decide +kernel
theorem ef_gch (m : MethodId) (t : Addr) (J : Int32) : entryFrame m #[.ref t, .int J] 2 = mkF m 0 #[.val (.ref t), .val (.int J)] [] := by first | (simp [entryFrame, mkF, argsToLocals, Value.category]; done) | rfl
set_option maxRecDepth 65536 in
set_option maxHeartbeats 40000000 in
theorem rm_gch {l : Launch} {Z : State} {a0 : Array Value} {zc : Int32} {fm : Value} (G : Gl Z a0 zc fm) (h : Heap) (t : Addr) (J : Int32) (j : Nat) (hJ : J = Int32.ofNat j) (kt : ClassId) (cs : List Int32) (N : Int32) (hN : N = Int32.ofNat (2 * cs.length)) (K : Arv Z h t kt .byte N (wideBytes cs) (.int 0)) (hj : j < cs.length) (hl : cs.length ≤ 32) (hcs : ∀ c ∈ cs, Chr c) :
    Met l Z consts_1 (⟨"java/lang/StringUTF16", "getChar", "([BI)C"⟩ : MethodName) jdk_52_method_5_code 2 (some .char) ({ frames := 0, cells := 0, slots := 0, locals := 0 } : Room) #[.ref t, .int J] h [] [] (fun v h' => v = some (.int (cs.getD j 0)) ∧ h = h') := by
  have G0 := G
  obtain ⟨hw, hEL, SC, hz, SF, hfm, SA, SH, SL⟩ := G
  have hw1 : ∀ d ∈ StrChars.Road.words, d.before a0 Z = true := fun d q => hw d (sub1 d q)
  have hwA : ∀ d ∈ Bundle.stringAtoms, d.before a0 Z = true := fun d q => hw d (subA d q)
  refine Met.of (plainFor_of_name pn_0) ?_
  intro p e s m below meth c T hnm hret hlk hby hml hs w
  have hZ0 := w.old
  refine Run.cast (ef_gch m t J) ?_
  have hj32 : j ≤ 32 := by omega
  refine w_getS w (hw _ (List.mem_of_getElem? (i := 211) rfl)) Via.refl (SA.ext w.old) (hb hby dgch_0) (pc' := 3) rfl fun T w => ?_
  refine s_if_ne w (hb hby dgch_3) (by decide) (pc1 := 6) rfl (pc2 := 28) rfl (fun q => absurd q (by decide)) (fun _ => ?_)
  refine s_iload_n w (hb hby dgch_28) rfl (pc' := 29) rfl ?_
  refine s_iconst w (hb hby dgch_29) (v := 1) rfl (pc' := 30) rfl ?_
  refine s_ishl w (hb hby dgch_30) (pc' := 31) rfl ?_
  refine s_istore_n w #[.val (.ref t), .val (.int (J <<< (1 &&& 31)))] (hb hby dgch_31) rfl (pc' := 32) rfl ?_
  rw [hJ, ofN_shl hj32]
  refine s_aload_n w (hb hby dgch_32) rfl rfl (pc' := 33) rfl ?_
  refine s_iload_n w (hb hby dgch_33) rfl (pc' := 34) rfl ?_
  refine s_iinc w #[.val (.ref t), .val (.int ((Int32.ofNat (2 * j)) + 1))] (hb hby dgch_34) (v := 1) rfl rfl rfl (pc' := 37) rfl ?_
  rw [ofNat_succ]
  refine w_ldB w K (i := 2 * j) (ofNat_lt (by omega)) (ofNat_nat (by omega)) (by rw [hN, ofNat_nat (by omega)]; omega) (wide_lo _ cs j hj) (hb hby dgch_37) (pc' := 38) rfl ?_
  refine s_sipush w (hb hby dgch_38) (v := 255) rfl (pc' := 41) rfl ?_
  refine s_iand w (hb hby dgch_41) (pc' := 42) rfl ?_
  refine w_getS w (hw _ (List.mem_of_getElem? (i := 212) rfl)) Via.refl (SH.ext w.old) (hb hby dgch_42) (pc' := 45) rfl fun T w => ?_
  refine s_ishl w (hb hby dgch_45) (pc' := 46) rfl ?_
  refine s_aload_n w (hb hby dgch_46) rfl rfl (pc' := 47) rfl ?_
  refine s_iload_n w (hb hby dgch_47) rfl (pc' := 48) rfl ?_
  refine w_ldB w K (i := 2 * j + 1) (ofNat_lt (by omega)) (ofNat_nat (by omega)) (by rw [hN, ofNat_nat (by omega)]; omega) (wide_hi _ cs j hj) (hb hby dgch_48) (pc' := 49) rfl ?_
  refine s_sipush w (hb hby dgch_49) (v := 255) rfl (pc' := 52) rfl ?_
  refine s_iand w (hb hby dgch_52) (pc' := 53) rfl ?_
  refine w_getS w (hw _ (List.mem_of_getElem? (i := 213) rfl)) Via.refl (SL.ext w.old) (hb hby dgch_53) (pc' := 56) rfl fun T w => ?_
  refine s_ishl w (hb hby dgch_56) (pc' := 57) rfl ?_
  refine s_ior w (hb hby dgch_57) (pc' := 58) rfl ?_
  refine s_i2c w (hb hby dgch_58) (pc' := 59) rfl ?_
  have e : nar .char (((lo8 (cs.getD j 0) &&& 255) <<< ((0 : Int32) &&& 31)) ||| ((hi8 (cs.getD j 0) &&& 255) <<< ((8 : Int32) &&& 31))) = cs.getD j 0 := pair_says (hcs _ (getD_memC hj)).1 (hcs _ (getD_memC hj)).2
  rw [e]
  exact w_ireturn w hEL hs hlk hret (narrow_ch (hcs _ (getD_memC hj)).1 (hcs _ (getD_memC hj)).2) (Or.inr (Or.inr (Or.inr (Or.inl rfl)))) (hb hby dgch_59) (by decide) (by decide) ⟨rfl, rfl⟩
theorem dpch_0 : decode jdk_52_method_4_code 0 = .ok (.getstatic 44, 3) := by decide +kernel
theorem dpch_3 : decode jdk_52_method_4_code 3 = .ok (.ifCond .ne 25, 3) := by decide +kernel
theorem dpch_6 : decode jdk_52_method_4_code 6 = .ok (.iload_n 1, 1) := by decide +kernel
theorem dpch_7 : decode jdk_52_method_4_code 7 = .ok (.ifCond .lt 11, 3) := by decide +kernel
theorem dpch_10 : decode jdk_52_method_4_code 10 = .ok (.iload_n 1, 1) := by decide +kernel
theorem dpch_11 : decode jdk_52_method_4_code 11 = .ok (.aload_n 0, 1) := by decide +kernel
theorem dpch_12 : decode jdk_52_method_4_code 12 = .ok (.invokestatic 48, 3) := by decide +kernel
theorem dpch_15 : decode jdk_52_method_4_code 15 = .ok (.if_icmp .lt 13, 3) := by decide +kernel
theorem dpch_18 : decode jdk_52_method_4_code 18 = .ok (.new 52, 3) := by decide +kernel
theorem dpch_21 : decode jdk_52_method_4_code 21 = .ok (.dup, 1) := by decide +kernel
theorem dpch_22 : decode jdk_52_method_4_code 22 = .ok (.ldc 54, 2) := by decide +kernel
theorem dpch_24 : decode jdk_52_method_4_code 24 = .ok (.invokespecial 56, 3) := by decide +kernel
theorem dpch_27 : decode jdk_52_method_4_code 27 = .ok (.athrow, 1) := by decide +kernel
theorem dpch_28 : decode jdk_52_method_4_code 28 = .ok (.iload_n 1, 1) := by decide +kernel
theorem dpch_29 : decode jdk_52_method_4_code 29 = .ok (.iconst 1, 1) := by decide +kernel
theorem dpch_30 : decode jdk_52_method_4_code 30 = .ok (.ishl, 1) := by decide +kernel
theorem dpch_31 : decode jdk_52_method_4_code 31 = .ok (.istore_n 1, 1) := by decide +kernel
theorem dpch_32 : decode jdk_52_method_4_code 32 = .ok (.aload_n 0, 1) := by decide +kernel
theorem dpch_33 : decode jdk_52_method_4_code 33 = .ok (.iload_n 1, 1) := by decide +kernel
theorem dpch_34 : decode jdk_52_method_4_code 34 = .ok (.iinc 1 1, 3) := by decide +kernel
theorem dpch_37 : decode jdk_52_method_4_code 37 = .ok (.iload_n 2, 1) := by decide +kernel
theorem dpch_38 : decode jdk_52_method_4_code 38 = .ok (.getstatic 59, 3) := by decide +kernel
theorem dpch_41 : decode jdk_52_method_4_code 41 = .ok (.ishr, 1) := by decide +kernel
theorem dpch_42 : decode jdk_52_method_4_code 42 = .ok (.i2b, 1) := by decide +kernel
theorem dpch_43 : decode jdk_52_method_4_code 43 = .ok (.bastore, 1) := by decide +kernel
theorem dpch_44 : decode jdk_52_method_4_code 44 = .ok (.aload_n 0, 1) := by decide +kernel
theorem dpch_45 : decode jdk_52_method_4_code 45 = .ok (.iload_n 1, 1) := by decide +kernel
theorem dpch_46 : decode jdk_52_method_4_code 46 = .ok (.iload_n 2, 1) := by decide +kernel
theorem dpch_47 : decode jdk_52_method_4_code 47 = .ok (.getstatic 63, 3) := by decide +kernel
theorem dpch_50 : decode jdk_52_method_4_code 50 = .ok (.ishr, 1) := by decide +kernel
theorem dpch_51 : decode jdk_52_method_4_code 51 = .ok (.i2b, 1) := by decide +kernel
theorem dpch_52 : decode jdk_52_method_4_code 52 = .ok (.bastore, 1) := by decide +kernel
theorem dpch_53 : decode jdk_52_method_4_code 53 = .ok (.return_, 1) := by decide +kernel
theorem ef_pch (m : MethodId) (t : Addr) (J : Int32) (c0 : Int32) : entryFrame m #[.ref t, .int J, .int c0] 3 = mkF m 0 #[.val (.ref t), .val (.int J), .val (.int c0)] [] := by first | (simp [entryFrame, mkF, argsToLocals, Value.category]; done) | rfl
set_option maxRecDepth 65536 in
set_option maxHeartbeats 40000000 in
theorem rm_pch {l : Launch} {Z : State} {a0 : Array Value} {zc : Int32} {fm : Value} (G : Gl Z a0 zc fm) (h : Heap) (t : Addr) (J : Int32) (c0 : Int32) (j n : Nat) (hJ : J = Int32.ofNat j) (kt : ClassId) (vs : List Value) (N : Int32) (hN : N = Int32.ofNat (2 * n)) (hvs : vs.length = 2 * n) (K : Arv Z h t kt .byte N vs (.int 0)) (hj : j < n) (hl : n ≤ 32) :
    Met l Z consts_1 (⟨"java/lang/StringUTF16", "putChar", "([BII)V"⟩ : MethodName) jdk_52_method_4_code 3 none ({ frames := 0, cells := 0, slots := 0, locals := 0 } : Room) #[.ref t, .int J, .int c0] h [t] [t] (fun v h' => v = none ∧ Arv Z h' t kt .byte N ((vs.set (2 * j) (.int (lo8 c0))).set (2 * j + 1) (.int (hi8 c0))) (.int 0)) := by
  have G0 := G
  obtain ⟨hw, hEL, SC, hz, SF, hfm, SA, SH, SL⟩ := G
  have hw1 : ∀ d ∈ StrChars.Road.words, d.before a0 Z = true := fun d q => hw d (sub1 d q)
  have hwA : ∀ d ∈ Bundle.stringAtoms, d.before a0 Z = true := fun d q => hw d (subA d q)
  refine Met.of (plainFor_of_name pn_0) ?_
  intro p e s m below meth c T hnm hret hlk hby hml hs w
  have hZ0 := w.old
  refine Run.cast (ef_pch m t J c0) ?_
  have hj32 : j ≤ 32 := by omega
  refine w_getS w (hw _ (List.mem_of_getElem? (i := 211) rfl)) Via.refl (SA.ext w.old) (hb hby dpch_0) (pc' := 3) rfl fun T w => ?_
  refine s_if_ne w (hb hby dpch_3) (by decide) (pc1 := 6) rfl (pc2 := 28) rfl (fun q => absurd q (by decide)) (fun _ => ?_)
  refine s_iload_n w (hb hby dpch_28) rfl (pc' := 29) rfl ?_
  refine s_iconst w (hb hby dpch_29) (v := 1) rfl (pc' := 30) rfl ?_
  refine s_ishl w (hb hby dpch_30) (pc' := 31) rfl ?_
  refine s_istore_n w #[.val (.ref t), .val (.int (J <<< (1 &&& 31))), .val (.int c0)] (hb hby dpch_31) rfl (pc' := 32) rfl ?_
  rw [hJ, ofN_shl hj32]
  refine s_aload_n w (hb hby dpch_32) rfl rfl (pc' := 33) rfl ?_
  refine s_iload_n w (hb hby dpch_33) rfl (pc' := 34) rfl ?_
  refine s_iinc w #[.val (.ref t), .val (.int ((Int32.ofNat (2 * j)) + 1)), .val (.int c0)] (hb hby dpch_34) (v := 1) rfl rfl rfl (pc' := 37) rfl ?_
  rw [ofNat_succ]
  refine s_iload_n w (hb hby dpch_37) rfl (pc' := 38) rfl ?_
  refine w_getS w (hw _ (List.mem_of_getElem? (i := 212) rfl)) Via.refl (SH.ext w.old) (hb hby dpch_38) (pc' := 41) rfl fun T w => ?_
  refine s_ishr w (hb hby dpch_41) (pc' := 42) rfl ?_
  refine s_i2b w (hb hby dpch_42) (pc' := 43) rfl ?_
  refine w_stB w K (i := 2 * j) (ofNat_lt (by omega)) (ofNat_nat (by omega)) (by rw [hN, ofNat_nat (by omega)]; omega) (by first | (rw [hvs]; omega) | (rw [List.length_set, hvs]; omega)) (nar_byte _) (hb hby dpch_43) (Or.inl (List.mem_singleton.mpr rfl)) (List.mem_singleton.mpr rfl) (pc' := 44) rfl fun T g1 w W1 D1 => ?_
  refine s_aload_n w (hb hby dpch_44) rfl rfl (pc' := 45) rfl ?_
  refine s_iload_n w (hb hby dpch_45) rfl (pc' := 46) rfl ?_
  refine s_iload_n w (hb hby dpch_46) rfl (pc' := 47) rfl ?_
  refine w_getS w (hw _ (List.mem_of_getElem? (i := 213) rfl)) Via.refl (SL.ext w.old) (hb hby dpch_47) (pc' := 50) rfl fun T w => ?_
  refine s_ishr w (hb hby dpch_50) (pc' := 51) rfl ?_
  refine s_i2b w (hb hby dpch_51) (pc' := 52) rfl ?_
  refine w_stB w D1 (i := 2 * j + 1) (ofNat_lt (by omega)) (ofNat_nat (by omega)) (by rw [hN, ofNat_nat (by omega)]; omega) (by first | (rw [hvs]; omega) | (rw [List.length_set, hvs]; omega)) (nar_byte _) (hb hby dpch_52) (Or.inl (List.mem_singleton.mpr rfl)) (List.mem_singleton.mpr rfl) (pc' := 53) rfl fun T g2 w W2 D2 => ?_
  rw [shr0] at D2
  exact w_return w hEL hs hlk hret (hb hby dpch_53) (by decide) (by decide) ⟨rfl, D2⟩
theorem dnbl_0 : decode jdk_52_method_3_code 0 = .ok (.iload_n 0, 1) := by decide +kernel
theorem dnbl_1 : decode jdk_52_method_3_code 1 = .ok (.ifCond .ge 11, 3) := by decide +kernel
theorem dnbl_4 : decode jdk_52_method_3_code 4 = .ok (.new 17, 3) := by decide +kernel
theorem dnbl_7 : decode jdk_52_method_3_code 7 = .ok (.dup, 1) := by decide +kernel
theorem dnbl_8 : decode jdk_52_method_3_code 8 = .ok (.invokespecial 19, 3) := by decide +kernel
theorem dnbl_11 : decode jdk_52_method_3_code 11 = .ok (.athrow, 1) := by decide +kernel
theorem dnbl_12 : decode jdk_52_method_3_code 12 = .ok (.iload_n 0, 1) := by decide +kernel
theorem dnbl_13 : decode jdk_52_method_3_code 13 = .ok (.ldc 20, 2) := by decide +kernel
theorem dnbl_15 : decode jdk_52_method_3_code 15 = .ok (.if_icmp .lt 40, 3) := by decide +kernel
theorem dnbl_18 : decode jdk_52_method_3_code 18 = .ok (.new 21, 3) := by decide +kernel
theorem dnbl_21 : decode jdk_52_method_3_code 21 = .ok (.dup, 1) := by decide +kernel
theorem dnbl_22 : decode jdk_52_method_3_code 22 = .ok (.new 23, 3) := by decide +kernel
theorem dnbl_25 : decode jdk_52_method_3_code 25 = .ok (.dup, 1) := by decide +kernel
theorem dnbl_26 : decode jdk_52_method_3_code 26 = .ok (.invokespecial 25, 3) := by decide +kernel
theorem dnbl_29 : decode jdk_52_method_3_code 29 = .ok (.ldc 26, 2) := by decide +kernel
theorem dnbl_31 : decode jdk_52_method_3_code 31 = .ok (.invokevirtual 28, 3) := by decide +kernel
theorem dnbl_34 : decode jdk_52_method_3_code 34 = .ok (.iload_n 0, 1) := by decide +kernel
theorem dnbl_35 : decode jdk_52_method_3_code 35 = .ok (.invokevirtual 32, 3) := by decide +kernel
theorem dnbl_38 : decode jdk_52_method_3_code 38 = .ok (.ldc 35, 2) := by decide +kernel
theorem dnbl_40 : decode jdk_52_method_3_code 40 = .ok (.invokevirtual 28, 3) := by decide +kernel
theorem dnbl_43 : decode jdk_52_method_3_code 43 = .ok (.ldc 20, 2) := by decide +kernel
theorem dnbl_45 : decode jdk_52_method_3_code 45 = .ok (.invokevirtual 32, 3) := by decide +kernel
theorem dnbl_48 : decode jdk_52_method_3_code 48 = .ok (.invokevirtual 37, 3) := by decide +kernel
theorem dnbl_51 : decode jdk_52_method_3_code 51 = .ok (.invokespecial 41, 3) := by decide +kernel
theorem dnbl_54 : decode jdk_52_method_3_code 54 = .ok (.athrow, 1) := by decide +kernel
theorem dnbl_55 : decode jdk_52_method_3_code 55 = .ok (.iload_n 0, 1) := by decide +kernel
theorem dnbl_56 : decode jdk_52_method_3_code 56 = .ok (.iconst 1, 1) := by decide +kernel
theorem dnbl_57 : decode jdk_52_method_3_code 57 = .ok (.ishl, 1) := by decide +kernel
theorem dnbl_58 : decode jdk_52_method_3_code 58 = .ok (.ireturn, 1) := by decide +kernel
theorem ef_nbl (m : MethodId) (N : Int32) : entryFrame m #[.int N] 1 = mkF m 0 #[.val (.int N)] [] := by first | (simp [entryFrame, mkF, argsToLocals, Value.category]; done) | rfl
set_option maxRecDepth 65536 in
set_option maxHeartbeats 40000000 in
theorem rm_nbl {l : Launch} {Z : State} {a0 : Array Value} {zc : Int32} {fm : Value} (G : Gl Z a0 zc fm) (h : Heap) (N : Int32) (n : Nat) (hN : N = Int32.ofNat n) (hn : n ≤ 32) :
    Met l Z consts_1 (⟨"java/lang/StringUTF16", "newBytesLength", "(I)I"⟩ : MethodName) jdk_52_method_3_code 1 (some .int) ({ frames := 0, cells := 0, slots := 0, locals := 0 } : Room) #[.int N] h [] [] (fun v h' => v = some (.int (Int32.ofNat (2 * n))) ∧ h = h') := by
  have G0 := G
  obtain ⟨hw, hEL, SC, hz, SF, hfm, SA, SH, SL⟩ := G
  have hw1 : ∀ d ∈ StrChars.Road.words, d.before a0 Z = true := fun d q => hw d (sub1 d q)
  have hwA : ∀ d ∈ Bundle.stringAtoms, d.before a0 Z = true := fun d q => hw d (subA d q)
  refine Met.of (plainFor_of_name pn_0) ?_
  intro p e s m below meth c T hnm hret hlk hby hml hs w
  have hZ0 := w.old
  refine Run.cast (ef_nbl m N) ?_
  refine s_iload_n w (hb hby dnbl_0) rfl (pc' := 1) rfl ?_
  refine s_if_ge w (hb hby dnbl_1) (by decide) (pc1 := 4) rfl (pc2 := 12) rfl (fun ct1 => ?_) (fun ct1 => ?_)
  · exact absurd ct1 (by rw [hN]; exact ofNat_lt (by omega))
  · skip
    refine s_iload_n w (hb hby dnbl_12) rfl (pc' := 13) rfl ?_
    refine w_ldcI w (v := 1073741823) (hw _ (List.mem_of_getElem? (i := 229) rfl)) (hb hby dnbl_13) (pc' := 15) rfl ?_
    refine s_icmp_lt w (hb hby dnbl_15) (by decide) (pc1 := 18) rfl (pc2 := 55) rfl (fun ct2 => ?_) (fun ct2 => ?_)
    · exact absurd (by rw [hN, Int32.lt_iff_toInt_lt, Int32.toInt_ofNat_of_lt (by omega)]; have e : (1073741823 : Int32).toInt = 1073741823 := (by decide); omega) ct2
    · skip
      refine s_iload_n w (hb hby dnbl_55) rfl (pc' := 56) rfl ?_
      refine s_iconst w (hb hby dnbl_56) (v := 1) rfl (pc' := 57) rfl ?_
      refine s_ishl w (hb hby dnbl_57) (pc' := 58) rfl ?_
      rw [hN, ofN_shl hn]
      exact w_ireturn w hEL hs hlk hret rfl (Or.inl rfl) (hb hby dnbl_58) (by decide) (by decide) ⟨rfl, rfl⟩
theorem dnbf_0 : decode jdk_52_method_2_code 0 = .ok (.iload_n 0, 1) := by decide +kernel
theorem dnbf_1 : decode jdk_52_method_2_code 1 = .ok (.invokestatic 11, 3) := by decide +kernel
theorem dnbf_4 : decode jdk_52_method_2_code 4 = .ok (.newarray .byte, 2) := by decide +kernel
theorem dnbf_6 : decode jdk_52_method_2_code 6 = .ok (.areturn, 1) := by decide +kernel
theorem ef_nbf (m : MethodId) (N : Int32) : entryFrame m #[.int N] 1 = mkF m 0 #[.val (.int N)] [] := by first | (simp [entryFrame, mkF, argsToLocals, Value.category]; done) | rfl
set_option maxRecDepth 65536 in
set_option maxHeartbeats 40000000 in
theorem rm_nbf {l : Launch} {Z : State} {a0 : Array Value} {zc : Int32} {fm : Value} (G : Gl Z a0 zc fm) (h : Heap) (N : Int32) (n : Nat) (hN : N = Int32.ofNat n) (hB : n ≤ 16) :
    MetN l Z consts_1 (⟨"java/lang/StringUTF16", "newBytesFor", "(I)[B"⟩ : MethodName) jdk_52_method_2_code 1 (some (.array .byte)) ({ frames := 1, cells := 1, slots := 32, locals := 12 } : Room) #[.int N] h [] [] (fun v h' N => ∃ t kt, v = some (.ref t) ∧ N = [t] ∧ h.size ≤ t ∧ Arv Z h' t kt .byte (Int32.ofNat (2 * n)) (List.replicate (2 * n) (.int 0)) (.int 0)) := by
  have G0 := G
  obtain ⟨hw, hEL, SC, hz, SF, hfm, SA, SH, SL⟩ := G
  have hw1 : ∀ d ∈ StrChars.Road.words, d.before a0 Z = true := fun d q => hw d (sub1 d q)
  have hwA : ∀ d ∈ Bundle.stringAtoms, d.before a0 Z = true := fun d q => hw d (subA d q)
  refine MetN.of (plainFor_of_name pn_0) ?_
  intro p e s m below meth c T hnm hret hlk hby hml hs w
  have hZ0 := w.old
  refine Run.cast (ef_nbf m N) ?_
  have hn : n ≤ 32 := by omega
  refine s_iload_n w (hb hby dnbf_0) rfl (pc' := 1) rfl ?_
  refine w_static w hEL (y := (⟨"java/lang/StringUTF16", "newBytesLength", "(I)I"⟩ : MethodName)) (hw _ (List.mem_of_getElem? (i := 226) rfl)) (hw _ (List.mem_of_getElem? (i := 227) rfl)) (hw _ (List.mem_of_getElem? (i := 22) rfl)) (hw _ (List.mem_of_getElem? (i := 228) rfl)) (by decide) (rm_nbl G0 h N n hN hn) all0 all0 (argsL := [.int N]) (rest := []) (lenOf (by decide +kernel : parseMethodDescriptor "(I)I" = some ⟨[.int], (some .int)⟩) rfl) rfl rfl (hb hby dnbf_1) (by rw [hml]; rfl) (W := 0) (Nat.le_of_eq rfl) (by decide) (by decide) (by decide) (by decide) (pc' := 4) rfl fun u1 T h2 w K3 P4 => ?_
  obtain ⟨rfl, rfl⟩ := P4
  show Run p e below _ T (mkF m 4 #[.val (.int N)] [.int (Int32.ofNat (2 * n))])
  refine w_newP w (hw _ (List.mem_of_getElem? (i := 24) rfl)) rfl rfl (hb hby dnbf_4) (ofNat_lt (by omega)) (n := 2 * n) (Nat.le_of_eq (ofNat_nat (by omega))) (by omega) (pc' := 6) rfl (by decide) (by first | omega | (dsimp only; omega)) fun T h5 x6 k7 w E8 q9 r10 V11 => ?_
  have w := w.mono (slots' := 32) (Nat.le_refl _) (by first | omega | (dsimp only; omega))
  exact w_areturnN w hEL hs hlk hret rfl rfl (hb hby dnbf_6) (by decide) (by decide) (N := [x6]) (allP (List.mem_cons_self ..)) ⟨x6, _, rfl, rfl, q9, V11⟩
theorem dtob_0 : decode jdk_52_method_14_code 0 = .ok (.iload_n 2, 1) := by decide +kernel
theorem dtob_1 : decode jdk_52_method_14_code 1 = .ok (.invokestatic 107, 3) := by decide +kernel
theorem dtob_4 : decode jdk_52_method_14_code 4 = .ok (.astore_n 3, 1) := by decide +kernel
theorem dtob_5 : decode jdk_52_method_14_code 5 = .ok (.iconst 0, 1) := by decide +kernel
theorem dtob_6 : decode jdk_52_method_14_code 6 = .ok (.istore 4, 2) := by decide +kernel
theorem dtob_8 : decode jdk_52_method_14_code 8 = .ok (.iload 4, 2) := by decide +kernel
theorem dtob_10 : decode jdk_52_method_14_code 10 = .ok (.iload_n 2, 1) := by decide +kernel
theorem dtob_11 : decode jdk_52_method_14_code 11 = .ok (.if_icmp .ge 21, 3) := by decide +kernel
theorem dtob_14 : decode jdk_52_method_14_code 14 = .ok (.aload_n 3, 1) := by decide +kernel
theorem dtob_15 : decode jdk_52_method_14_code 15 = .ok (.iload 4, 2) := by decide +kernel
theorem dtob_17 : decode jdk_52_method_14_code 17 = .ok (.aload_n 0, 1) := by decide +kernel
theorem dtob_18 : decode jdk_52_method_14_code 18 = .ok (.iload_n 1, 1) := by decide +kernel
theorem dtob_19 : decode jdk_52_method_14_code 19 = .ok (.caload, 1) := by decide +kernel
theorem dtob_20 : decode jdk_52_method_14_code 20 = .ok (.invokestatic 111, 3) := by decide +kernel
theorem dtob_23 : decode jdk_52_method_14_code 23 = .ok (.iinc 1 1, 3) := by decide +kernel
theorem dtob_26 : decode jdk_52_method_14_code 26 = .ok (.iinc 4 1, 3) := by decide +kernel
theorem dtob_29 : decode jdk_52_method_14_code 29 = .ok (.goto (-21), 3) := by decide +kernel
theorem dtob_32 : decode jdk_52_method_14_code 32 = .ok (.aload_n 3, 1) := by decide +kernel
theorem dtob_33 : decode jdk_52_method_14_code 33 = .ok (.areturn, 1) := by decide +kernel
theorem ef_tob (m : MethodId) (b : Addr) (N : Int32) : entryFrame m #[.ref b, .int 0, .int N] 5 = mkF m 0 #[.val (.ref b), .val (.int 0), .val (.int N), .unset, .unset] [] := by first | (simp [entryFrame, mkF, argsToLocals, Value.category]; done) | rfl
set_option maxRecDepth 65536 in
set_option maxHeartbeats 40000000 in
theorem rm_tob {l : Launch} {Z : State} {a0 : Array Value} {zc : Int32} {fm : Value} (G : Gl Z a0 zc fm) (h : Heap) (b : Addr) (N : Int32) (kb : ClassId) (cs : List Int32) (hN : N = Int32.ofNat cs.length) (hB : cs.length ≤ 16) (K : Arv Z h b kb .char N (cs.map Value.int) (.int 0)) :
    MetN l Z consts_1 (⟨"java/lang/StringUTF16", "toBytes", "([CII)[B"⟩ : MethodName) jdk_52_method_14_code 5 (some (.array .byte)) ({ frames := 2, cells := 1, slots := 32, locals := 24 } : Room) #[.ref b, .int 0, .int N] h [] [] (fun v h' N => ∃ t kt, v = some (.ref t) ∧ N = [t] ∧ h.size ≤ t ∧ Arv Z h' t kt .byte (Int32.ofNat (2 * cs.length)) (wideBytes cs) (.int 0)) := by
  have G0 := G
  obtain ⟨hw, hEL, SC, hz, SF, hfm, SA, SH, SL⟩ := G
  have hw1 : ∀ d ∈ StrChars.Road.words, d.before a0 Z = true := fun d q => hw d (sub1 d q)
  have hwA : ∀ d ∈ Bundle.stringAtoms, d.before a0 Z = true := fun d q => hw d (subA d q)
  refine MetN.of (plainFor_of_name pn_0) ?_
  intro p e s m below meth c T hnm hret hlk hby hml hs w
  have hZ0 := w.old
  refine Run.cast (ef_tob m b N) ?_
  have hl32 : cs.length ≤ 32 := by omega
  refine s_iload_n w (hb hby dtob_0) rfl (pc' := 1) rfl ?_
  refine w_staticN w hEL (y := (⟨"java/lang/StringUTF16", "newBytesFor", "(I)[B"⟩ : MethodName)) (hw _ (List.mem_of_getElem? (i := 267) rfl)) (hw _ (List.mem_of_getElem? (i := 224) rfl)) (hw _ (List.mem_of_getElem? (i := 22) rfl)) (hw _ (List.mem_of_getElem? (i := 225) rfl)) (by decide) (rm_nbf G0 h N cs.length hN hB) all0 all0 (argsL := [.int N]) (rest := []) (lenOf (by decide +kernel : parseMethodDescriptor "(I)[B" = some ⟨[.int], (some (.array .byte))⟩) rfl) rfl rfl (hb hby dtob_1) (by rw [hml]; rfl) (W := 0) (Nat.le_of_eq rfl) (by decide) (by decide) (by decide) (by decide) (pc' := 4) rfl fun u1 N5 T h2 w K3 P4 => ?_
  obtain ⟨t6, kt7, rfl, rfl, q8, A9⟩ := P4
  have E10 := Keep.ext0 K3
  show Run p e below _ T (mkF m 4 #[.val (.ref b), .val (.int 0), .val (.int N), .unset, .unset] [.ref t6])
  refine s_astore_n w #[.val (.ref b), .val (.int 0), .val (.int N), .val (.ref t6), .unset] (hb hby dtob_4) rfl rfl (pc' := 5) rfl ?_
  refine s_iconst w (hb hby dtob_5) (v := 0) rfl (pc' := 6) rfl ?_
  refine s_istore w #[.val (.ref b), .val (.int 0), .val (.int N), .val (.ref t6), .val (.int 0)] (hb hby dtob_6) rfl (pc' := 8) rfl ?_
  have hbt : b ≠ t6 := fun z => by obtain ⟨cl, A, -⟩ := K; have := A.lt; rw [z] at this; exact absurd q8 (Nat.not_le.mpr this)
  suffices H : ∀ k j T g, j + k = cs.length → Wk p l e _ s m _ below meth c Z consts_1 _ h [] T g 1 32 [t6] → Ext h g → Arv Z g b kb .char N (cs.map Value.int) (.int 0) → Arv Z g t6 kt7 .byte (Int32.ofNat (2 * cs.length)) (wideBytes (cs.take j) ++ List.replicate (2 * (cs.length - j)) (.int 0)) (.int 0) → Run p e below (QmN Z consts_1 s h [] _ _) T (mkF m 8 #[.val (.ref b), .val (.int (Int32.ofNat j)), .val (.int N), .val (.ref t6), .val (.int (Int32.ofNat j))] []) from H cs.length 0 T h2 (Nat.zero_add _) w E10 (K.ext E10) A9
  intro k
  induction k with
  | zero =>
    intro j T g hj w E K D
    obtain rfl : j = cs.length := hj
    refine s_iload w (hb hby dtob_8) rfl (pc' := 10) rfl ?_
    refine s_iload_n w (hb hby dtob_10) rfl (pc' := 11) rfl ?_
    refine s_icmp_ge w (hb hby dtob_11) (by decide) (pc1 := 14) rfl (pc2 := 32) rfl (fun ct11 => ?_) (fun ct11 => ?_)
    · exact absurd ct11 (by rw [hN]; exact Int32.lt_irrefl)
    · skip
      refine s_aload_n w (hb hby dtob_32) rfl rfl (pc' := 33) rfl ?_
      exact w_areturnN w hEL hs hlk hret rfl rfl (hb hby dtob_33) (by decide) (by decide) (N := [t6]) (allP (List.mem_cons_self ..)) ⟨t6, kt7, rfl, rfl, q8, by simpa using D⟩
  | succ k ih =>
    intro j T g hj w E K D
    have hjn : j < cs.length := by omega
    refine s_iload w (hb hby dtob_8) rfl (pc' := 10) rfl ?_
    refine s_iload_n w (hb hby dtob_10) rfl (pc' := 11) rfl ?_
    refine s_icmp_ge w (hb hby dtob_11) (by decide) (pc1 := 14) rfl (pc2 := 32) rfl (fun ct12 => ?_) (fun ct12 => ?_)
    · skip
      refine s_aload_n w (hb hby dtob_14) rfl rfl (pc' := 15) rfl ?_
      refine s_iload w (hb hby dtob_15) rfl (pc' := 17) rfl ?_
      refine s_aload_n w (hb hby dtob_17) rfl rfl (pc' := 18) rfl ?_
      refine s_iload_n w (hb hby dtob_18) rfl (pc' := 19) rfl ?_
      refine w_ldC w K (i := j) (ofNat_lt (by omega)) (ofNat_nat (by omega)) (by rw [hN, ofNat_nat (by omega)]; exact hjn) (mapI_getD hjn) (hb hby dtob_19) (pc' := 20) rfl ?_
      refine w_static w hEL (y := (⟨"java/lang/StringUTF16", "putChar", "([BII)V"⟩ : MethodName)) (hw _ (List.mem_of_getElem? (i := 208) rfl)) (hw _ (List.mem_of_getElem? (i := 209) rfl)) (hw _ (List.mem_of_getElem? (i := 22) rfl)) (hw _ (List.mem_of_getElem? (i := 210) rfl)) (by decide) (rm_pch G0 g t6 _ _ j cs.length rfl kt7 _ _ rfl (by simp [wide_len]; omega) D hjn hl32) (allS (List.mem_of_getElem? (i := 0) rfl) all0) (allS (Or.inr q8) all0) (argsL := [.ref t6, .int (Int32.ofNat j), .int (cs.getD j 0)]) (rest := []) (lenOf (by decide +kernel : parseMethodDescriptor "([BII)V" = some ⟨[(.array .byte), .int, .int], none⟩) rfl) rfl rfl (hb hby dtob_20) (by rw [hml]; rfl) (W := 0) (Nat.le_of_eq rfl) (by decide) (by decide) (by decide) (by decide) (pc' := 23) rfl fun u13 T h14 w K15 P16 => ?_
      obtain ⟨rfl, D1⟩ := P16
      have E1 := Ext.kp E K15 (allP q8)
      have K1 := K.keep K15 (ninS hbt nin0)
      rw [wide_step cs j hjn] at D1
      show Run p e below _ T (mkF m 23 #[.val (.ref b), .val (.int (Int32.ofNat j)), .val (.int N), .val (.ref t6), .val (.int (Int32.ofNat j))] [])
      refine s_iinc w #[.val (.ref b), .val (.int ((Int32.ofNat j) + 1)), .val (.int N), .val (.ref t6), .val (.int (Int32.ofNat j))] (hb hby dtob_23) (v := 1) rfl rfl rfl (pc' := 26) rfl ?_
      refine s_iinc w #[.val (.ref b), .val (.int ((Int32.ofNat j) + 1)), .val (.int N), .val (.ref t6), .val (.int ((Int32.ofNat j) + 1))] (hb hby dtob_26) (v := 1) rfl rfl rfl (pc' := 29) rfl ?_
      refine s_goto w (hb hby dtob_29) (by decide) (pc' := 8) rfl ?_
      rw [ofNat_succ]
      exact ih (j + 1) _ _ (by omega) w E1 K1 D1
    · exact absurd (by rw [hN]; exact (ofNat_cmp (by omega) (by omega)).mpr hjn) ct12
theorem dcp5_0 : decode jdk_52_method_21_code 0 = .ok (.iconst 0, 1) := by decide +kernel
theorem dcp5_1 : decode jdk_52_method_21_code 1 = .ok (.istore 5, 2) := by decide +kernel
theorem dcp5_3 : decode jdk_52_method_21_code 3 = .ok (.iload 5, 2) := by decide +kernel
theorem dcp5_5 : decode jdk_52_method_21_code 5 = .ok (.iload 4, 2) := by decide +kernel
theorem dcp5_7 : decode jdk_52_method_21_code 7 = .ok (.if_icmp .ge 37, 3) := by decide +kernel
theorem dcp5_10 : decode jdk_52_method_21_code 10 = .ok (.aload_n 0, 1) := by decide +kernel
theorem dcp5_11 : decode jdk_52_method_21_code 11 = .ok (.iload_n 1, 1) := by decide +kernel
theorem dcp5_12 : decode jdk_52_method_21_code 12 = .ok (.caload, 1) := by decide +kernel
theorem dcp5_13 : decode jdk_52_method_21_code 13 = .ok (.istore 6, 2) := by decide +kernel
theorem dcp5_15 : decode jdk_52_method_21_code 15 = .ok (.iload 6, 2) := by decide +kernel
theorem dcp5_17 : decode jdk_52_method_21_code 17 = .ok (.sipush 255, 3) := by decide +kernel
theorem dcp5_20 : decode jdk_52_method_21_code 20 = .ok (.if_icmp .le 6, 3) := by decide +kernel
theorem dcp5_23 : decode jdk_52_method_21_code 23 = .ok (.iload 5, 2) := by decide +kernel
theorem dcp5_25 : decode jdk_52_method_21_code 25 = .ok (.ireturn, 1) := by decide +kernel
theorem dcp5_26 : decode jdk_52_method_21_code 26 = .ok (.aload_n 2, 1) := by decide +kernel
theorem dcp5_27 : decode jdk_52_method_21_code 27 = .ok (.iload_n 3, 1) := by decide +kernel
theorem dcp5_28 : decode jdk_52_method_21_code 28 = .ok (.iload 6, 2) := by decide +kernel
theorem dcp5_30 : decode jdk_52_method_21_code 30 = .ok (.i2b, 1) := by decide +kernel
theorem dcp5_31 : decode jdk_52_method_21_code 31 = .ok (.bastore, 1) := by decide +kernel
theorem dcp5_32 : decode jdk_52_method_21_code 32 = .ok (.iinc 1 1, 3) := by decide +kernel
theorem dcp5_35 : decode jdk_52_method_21_code 35 = .ok (.iinc 3 1, 3) := by decide +kernel
theorem dcp5_38 : decode jdk_52_method_21_code 38 = .ok (.iinc 5 1, 3) := by decide +kernel
theorem dcp5_41 : decode jdk_52_method_21_code 41 = .ok (.goto (-38), 3) := by decide +kernel
theorem dcp5_44 : decode jdk_52_method_21_code 44 = .ok (.iload 4, 2) := by decide +kernel
theorem dcp5_46 : decode jdk_52_method_21_code 46 = .ok (.ireturn, 1) := by decide +kernel
theorem ef_cp5 (m : MethodId) (b : Addr) (d : Addr) (N : Int32) : entryFrame m #[.ref b, .int 0, .ref d, .int 0, .int N] 7 = mkF m 0 #[.val (.ref b), .val (.int 0), .val (.ref d), .val (.int 0), .val (.int N), .unset, .unset] [] := by first | (simp [entryFrame, mkF, argsToLocals, Value.category]; done) | rfl
set_option maxRecDepth 65536 in
set_option maxHeartbeats 40000000 in
theorem rm_cp5 {l : Launch} {Z : State} {a0 : Array Value} {zc : Int32} {fm : Value} (G : Gl Z a0 zc fm) (h : Heap) (b : Addr) (d : Addr) (N : Int32) (kb kd : ClassId) (cs : List Int32) (hN : N = Int32.ofNat cs.length) (hB : cs.length ≤ 32) (K : Arv Z h b kb .char N (cs.map Value.int) (.int 0)) (D : Arv Z h d kd .byte N (List.replicate cs.length (.int 0)) (.int 0)) (hne : b ≠ d) :
    Met l Z consts_1 (⟨"java/lang/StringUTF16", "compress", "([CI[BII)I"⟩ : MethodName) jdk_52_method_21_code 7 (some .int) ({ frames := 0, cells := 0, slots := 0, locals := 0 } : Room) #[.ref b, .int 0, .ref d, .int 0, .int N] h [d] [d] (fun v h' => ∃ r, v = some (.int (Int32.ofNat r)) ∧ ((r = cs.length ∧ (∀ c ∈ cs, ¬ (255 : Int32) < c) ∧ Arv Z h' d kd .byte N (cs.map fun c => Value.int (lo8 c)) (.int 0)) ∨ (r < cs.length ∧ (255 : Int32) < cs.getD r 0))) := by
  have G0 := G
  obtain ⟨hw, hEL, SC, hz, SF, hfm, SA, SH, SL⟩ := G
  have hw1 : ∀ d ∈ StrChars.Road.words, d.before a0 Z = true := fun d q => hw d (sub1 d q)
  have hwA : ∀ d ∈ Bundle.stringAtoms, d.before a0 Z = true := fun d q => hw d (subA d q)
  refine Met.of (plainFor_of_name pn_0) ?_
  intro p e s m below meth c T hnm hret hlk hby hml hs w
  have hZ0 := w.old
  refine Run.cast (ef_cp5 m b d N) ?_
  refine s_iconst w (hb hby dcp5_0) (v := 0) rfl (pc' := 1) rfl ?_
  refine s_istore w #[.val (.ref b), .val (.int 0), .val (.ref d), .val (.int 0), .val (.int N), .val (.int 0), .unset] (hb hby dcp5_1) rfl (pc' := 3) rfl ?_
  suffices H : ∀ k j (sl : Slot) T g, j + k = cs.length → (sl = .unset ∨ ∃ z, sl = .val (.int z)) → Wk p l e _ s m _ below meth c Z consts_1 _ h [d] T g 0 0 [d] → Arv Z g b kb .char N (cs.map Value.int) (.int 0) → Arv Z g d kd .byte N (((cs.take j).map fun c => Value.int (lo8 c)) ++ List.replicate (cs.length - j) (.int 0)) (.int 0) → (∀ c ∈ cs.take j, ¬ (255 : Int32) < c) → Run p e below (Qm Z consts_1 s h [d] _ _) T (mkF m 3 #[.val (.ref b), .val (.int (Int32.ofNat j)), .val (.ref d), .val (.int (Int32.ofNat j)), .val (.int N), .val (.int (Int32.ofNat j)), sl] []) from H cs.length 0 .unset T h (Nat.zero_add _) (Or.inl rfl) w K D (fun _ q => nomatch q)
  intro k
  induction k with
  | zero =>
    intro j sl T g hj hsl w K D hlt
    obtain rfl : j = cs.length := hj
    refine s_iload w (hb hby dcp5_3) rfl (pc' := 5) rfl ?_
    refine s_iload w (hb hby dcp5_5) rfl (pc' := 7) rfl ?_
    refine s_icmp_ge w (hb hby dcp5_7) (by decide) (pc1 := 10) rfl (pc2 := 44) rfl (fun ct1 => ?_) (fun ct1 => ?_)
    · exact absurd ct1 (by rw [hN]; exact Int32.lt_irrefl)
    · skip
      refine s_iload w (hb hby dcp5_44) rfl (pc' := 46) rfl ?_
      exact w_ireturn w hEL hs hlk hret rfl (Or.inl rfl) (hb hby dcp5_46) (by decide) (by decide) ⟨cs.length, by rw [hN], Or.inl ⟨rfl, fun c q => hlt c (by simpa using q), by simpa using D⟩⟩
  | succ k ih =>
    intro j sl T g hj hsl w K D hlt
    have hjn : j < cs.length := by omega
    refine s_iload w (hb hby dcp5_3) rfl (pc' := 5) rfl ?_
    refine s_iload w (hb hby dcp5_5) rfl (pc' := 7) rfl ?_
    refine s_icmp_ge w (hb hby dcp5_7) (by decide) (pc1 := 10) rfl (pc2 := 44) rfl (fun ct2 => ?_) (fun ct2 => ?_)
    · skip
      refine s_aload_n w (hb hby dcp5_10) rfl rfl (pc' := 11) rfl ?_
      refine s_iload_n w (hb hby dcp5_11) rfl (pc' := 12) rfl ?_
      refine w_ldC w K (i := j) (ofNat_lt (by omega)) (ofNat_nat (by omega)) (by rw [hN, ofNat_nat (by omega)]; exact hjn) (mapI_getD hjn) (hb hby dcp5_12) (pc' := 13) rfl ?_
      refine s_istore w #[.val (.ref b), .val (.int (Int32.ofNat j)), .val (.ref d), .val (.int (Int32.ofNat j)), .val (.int N), .val (.int (Int32.ofNat j)), .val (.int (cs.getD j 0))] (hb hby dcp5_13) (by rcases hsl with rfl | ⟨z, rfl⟩ <;> rfl) (pc' := 15) rfl ?_
      refine s_iload w (hb hby dcp5_15) rfl (pc' := 17) rfl ?_
      refine s_sipush w (hb hby dcp5_17) (v := 255) rfl (pc' := 20) rfl ?_
      refine s_icmp_le w (hb hby dcp5_20) (by decide) (pc1 := 23) rfl (pc2 := 26) rfl (fun ct3 => ?_) (fun ct3 => ?_)
      · skip
        refine s_iload w (hb hby dcp5_23) rfl (pc' := 25) rfl ?_
        exact w_ireturn w hEL hs hlk hret rfl (Or.inl rfl) (hb hby dcp5_25) (by decide) (by decide) ⟨j, rfl, Or.inr ⟨hjn, ct3⟩⟩
      · skip
        refine s_aload_n w (hb hby dcp5_26) rfl rfl (pc' := 27) rfl ?_
        refine s_iload_n w (hb hby dcp5_27) rfl (pc' := 28) rfl ?_
        refine s_iload w (hb hby dcp5_28) rfl (pc' := 30) rfl ?_
        refine s_i2b w (hb hby dcp5_30) (pc' := 31) rfl ?_
        refine w_stB w D (i := j) (ofNat_lt (by omega)) (ofNat_nat (by omega)) (by rw [hN, ofNat_nat (by omega)]; exact hjn) (by simp; omega) (nar_byte _) (hb hby dcp5_31) (Or.inl (List.mem_singleton.mpr rfl)) (List.mem_singleton.mpr rfl) (pc' := 32) rfl fun T g1 w W1 D1 => ?_
        refine s_iinc w #[.val (.ref b), .val (.int ((Int32.ofNat j) + 1)), .val (.ref d), .val (.int (Int32.ofNat j)), .val (.int N), .val (.int (Int32.ofNat j)), .val (.int (cs.getD j 0))] (hb hby dcp5_32) (v := 1) rfl rfl rfl (pc' := 35) rfl ?_
        refine s_iinc w #[.val (.ref b), .val (.int ((Int32.ofNat j) + 1)), .val (.ref d), .val (.int ((Int32.ofNat j) + 1)), .val (.int N), .val (.int (Int32.ofNat j)), .val (.int (cs.getD j 0))] (hb hby dcp5_35) (v := 1) rfl rfl rfl (pc' := 38) rfl ?_
        refine s_iinc w #[.val (.ref b), .val (.int ((Int32.ofNat j) + 1)), .val (.ref d), .val (.int ((Int32.ofNat j) + 1)), .val (.int N), .val (.int ((Int32.ofNat j) + 1)), .val (.int (cs.getD j 0))] (hb hby dcp5_38) (v := 1) rfl rfl rfl (pc' := 41) rfl ?_
        refine s_goto w (hb hby dcp5_41) (by decide) (pc' := 3) rfl ?_
        rw [ofNat_succ]
        exact ih (j + 1) _ _ _ (by omega) (Or.inr ⟨_, rfl⟩) w (K.other W1 hne) (by rw [← fill_step (f := fun c => Value.int (lo8 c)) cs j hjn]; exact D1) (fun c q => (take_mem hjn q).elim (hlt c) (fun z => by rw [z]; exact ct3))
    · exact absurd (by rw [hN]; exact (ofNat_cmp (by omega) (by omega)).mpr hjn) ct2
theorem dcp3_0 : decode jdk_52_method_16_code 0 = .ok (.iload_n 2, 1) := by decide +kernel
theorem dcp3_1 : decode jdk_52_method_16_code 1 = .ok (.newarray .byte, 2) := by decide +kernel
theorem dcp3_3 : decode jdk_52_method_16_code 3 = .ok (.astore_n 3, 1) := by decide +kernel
theorem dcp3_4 : decode jdk_52_method_16_code 4 = .ok (.aload_n 0, 1) := by decide +kernel
theorem dcp3_5 : decode jdk_52_method_16_code 5 = .ok (.iload_n 1, 1) := by decide +kernel
theorem dcp3_6 : decode jdk_52_method_16_code 6 = .ok (.aload_n 3, 1) := by decide +kernel
theorem dcp3_7 : decode jdk_52_method_16_code 7 = .ok (.iconst 0, 1) := by decide +kernel
theorem dcp3_8 : decode jdk_52_method_16_code 8 = .ok (.iload_n 2, 1) := by decide +kernel
theorem dcp3_9 : decode jdk_52_method_16_code 9 = .ok (.invokestatic 115, 3) := by decide +kernel
theorem dcp3_12 : decode jdk_52_method_16_code 12 = .ok (.istore 4, 2) := by decide +kernel
theorem dcp3_14 : decode jdk_52_method_16_code 14 = .ok (.iload 4, 2) := by decide +kernel
theorem dcp3_16 : decode jdk_52_method_16_code 16 = .ok (.iload_n 2, 1) := by decide +kernel
theorem dcp3_17 : decode jdk_52_method_16_code 17 = .ok (.if_icmp .eq 40, 3) := by decide +kernel
theorem dcp3_20 : decode jdk_52_method_16_code 20 = .ok (.aload_n 0, 1) := by decide +kernel
theorem dcp3_21 : decode jdk_52_method_16_code 21 = .ok (.iload_n 1, 1) := by decide +kernel
theorem dcp3_22 : decode jdk_52_method_16_code 22 = .ok (.iload_n 2, 1) := by decide +kernel
theorem dcp3_23 : decode jdk_52_method_16_code 23 = .ok (.invokestatic 119, 3) := by decide +kernel
theorem dcp3_26 : decode jdk_52_method_16_code 26 = .ok (.astore 5, 2) := by decide +kernel
theorem dcp3_28 : decode jdk_52_method_16_code 28 = .ok (.aload 5, 2) := by decide +kernel
theorem dcp3_30 : decode jdk_52_method_16_code 30 = .ok (.iload 4, 2) := by decide +kernel
theorem dcp3_32 : decode jdk_52_method_16_code 32 = .ok (.invokestatic 71, 3) := by decide +kernel
theorem dcp3_35 : decode jdk_52_method_16_code 35 = .ok (.sipush 255, 3) := by decide +kernel
theorem dcp3_38 : decode jdk_52_method_16_code 38 = .ok (.if_icmp .gt 16, 3) := by decide +kernel
theorem dcp3_41 : decode jdk_52_method_16_code 41 = .ok (.aload 5, 2) := by decide +kernel
theorem dcp3_43 : decode jdk_52_method_16_code 43 = .ok (.iconst 0, 1) := by decide +kernel
theorem dcp3_44 : decode jdk_52_method_16_code 44 = .ok (.aload_n 3, 1) := by decide +kernel
theorem dcp3_45 : decode jdk_52_method_16_code 45 = .ok (.iconst 0, 1) := by decide +kernel
theorem dcp3_46 : decode jdk_52_method_16_code 46 = .ok (.iload_n 2, 1) := by decide +kernel
theorem dcp3_47 : decode jdk_52_method_16_code 47 = .ok (.invokestatic 123, 3) := by decide +kernel
theorem dcp3_50 : decode jdk_52_method_16_code 50 = .ok (.iload_n 2, 1) := by decide +kernel
theorem dcp3_51 : decode jdk_52_method_16_code 51 = .ok (.if_icmp .eq 6, 3) := by decide +kernel
theorem dcp3_54 : decode jdk_52_method_16_code 54 = .ok (.aload 5, 2) := by decide +kernel
theorem dcp3_56 : decode jdk_52_method_16_code 56 = .ok (.areturn, 1) := by decide +kernel
theorem dcp3_57 : decode jdk_52_method_16_code 57 = .ok (.aload_n 3, 1) := by decide +kernel
theorem dcp3_58 : decode jdk_52_method_16_code 58 = .ok (.areturn, 1) := by decide +kernel
theorem ef_cp3 (m : MethodId) (b : Addr) (N : Int32) : entryFrame m #[.ref b, .int 0, .int N] 6 = mkF m 0 #[.val (.ref b), .val (.int 0), .val (.int N), .unset, .unset, .unset] [] := by first | (simp [entryFrame, mkF, argsToLocals, Value.category]; done) | rfl
set_option maxRecDepth 65536 in
set_option maxHeartbeats 40000000 in
theorem rm_cp3 {l : Launch} {Z : State} {a0 : Array Value} {zc : Int32} {fm : Value} (G : Gl Z a0 zc fm) (h : Heap) (b : Addr) (N : Int32) (kb : ClassId) (cs : List Int32) (hN : N = Int32.ofNat cs.length) (hB : cs.length ≤ 16) (hcs : ∀ c ∈ cs, Chr c) (K : Arv Z h b kb .char N (cs.map Value.int) (.int 0)) :
    Met l Z consts_1 (⟨"java/lang/StringUTF16", "compress", "([CII)[B"⟩ : MethodName) jdk_52_method_16_code 6 (some (.array .byte)) ({ frames := 3, cells := 2, slots := 48, locals := 40 } : Room) #[.ref b, .int 0, .int N] h [] [] (fun v h' => ∃ t kt cd N2 vs, v = some (.ref t) ∧ h.size ≤ t ∧ Arv Z h' t kt .byte N2 vs (.int 0) ∧ CodA cs cd N2 vs) := by
  have G0 := G
  obtain ⟨hw, hEL, SC, hz, SF, hfm, SA, SH, SL⟩ := G
  have hw1 : ∀ d ∈ StrChars.Road.words, d.before a0 Z = true := fun d q => hw d (sub1 d q)
  have hwA : ∀ d ∈ Bundle.stringAtoms, d.before a0 Z = true := fun d q => hw d (subA d q)
  refine Met.of (plainFor_of_name pn_0) ?_
  intro p e s m below meth c T hnm hret hlk hby hml hs w
  have hZ0 := w.old
  refine Run.cast (ef_cp3 m b N) ?_
  have hl32 : cs.length ≤ 32 := by omega
  refine s_iload_n w (hb hby dcp3_0) rfl (pc' := 1) rfl ?_
  refine w_newP w (hw _ (List.mem_of_getElem? (i := 24) rfl)) rfl rfl (hb hby dcp3_1) (by rw [hN]; exact ofNat_lt (by omega)) (n := cs.length) (by rw [hN]; exact Nat.le_of_eq (ofNat_nat (by omega))) (by omega) (pc' := 3) rfl (by decide) (by first | omega | (dsimp only; omega)) fun T h1 x2 k3 w E4 q5 r6 V7 => ?_
  have w := w.mono (slots' := 16) (Nat.le_refl _) (by first | omega | (dsimp only; omega))
  refine s_astore_n w #[.val (.ref b), .val (.int 0), .val (.int N), .val (.ref x2), .unset, .unset] (hb hby dcp3_3) rfl rfl (pc' := 4) rfl ?_
  refine s_aload_n w (hb hby dcp3_4) rfl rfl (pc' := 5) rfl ?_
  refine s_iload_n w (hb hby dcp3_5) rfl (pc' := 6) rfl ?_
  refine s_aload_n w (hb hby dcp3_6) rfl rfl (pc' := 7) rfl ?_
  refine s_iconst w (hb hby dcp3_7) (v := 0) rfl (pc' := 8) rfl ?_
  refine s_iload_n w (hb hby dcp3_8) rfl (pc' := 9) rfl ?_
  have hne : b ≠ x2 := fun z => by obtain ⟨cl, A, -⟩ := K; have := A.lt; rw [z] at this; exact absurd q5 (Nat.not_le.mpr this)
  refine w_static w hEL (y := (⟨"java/lang/StringUTF16", "compress", "([CI[BII)I"⟩ : MethodName)) (hw _ (List.mem_of_getElem? (i := 25) rfl)) (hw _ (List.mem_of_getElem? (i := 26) rfl)) (hw _ (List.mem_of_getElem? (i := 22) rfl)) (hw _ (List.mem_of_getElem? (i := 27) rfl)) (by decide) (rm_cp5 G0 h1 b x2 N kb k3 cs hN hl32 (K.ext E4) V7 hne) (allS (List.mem_of_getElem? (i := 0) rfl) all0) (allS (Or.inr r6) all0) (argsL := [.ref b, .int 0, .ref x2, .int 0, .int N]) (rest := []) (lenOf (by decide +kernel : parseMethodDescriptor "([CI[BII)I" = some ⟨[(.array .char), .int, (.array .byte), .int, .int], (some .int)⟩) rfl) rfl rfl (hb hby dcp3_9) (by rw [hml]; rfl) (W := 0) (Nat.le_of_eq rfl) (by decide) (by decide) (by decide) (by decide) (pc' := 12) rfl fun u8 T h9 w K10 P11 => ?_
  obtain ⟨r0, rfl, hr⟩ := P11
  have Kb1 := (K.ext E4).keep K10 (ninS hne nin0)
  have E12 := Ext.kp E4 K10 (allS q5 all0)
  show Run p e below _ T (mkF m 12 #[.val (.ref b), .val (.int 0), .val (.int N), .val (.ref x2), .unset, .unset] [.int (Int32.ofNat r0)])
  refine s_istore w #[.val (.ref b), .val (.int 0), .val (.int N), .val (.ref x2), .val (.int (Int32.ofNat r0)), .unset] (hb hby dcp3_12) rfl (pc' := 14) rfl ?_
  refine s_iload w (hb hby dcp3_14) rfl (pc' := 16) rfl ?_
  refine s_iload_n w (hb hby dcp3_16) rfl (pc' := 17) rfl ?_
  refine s_icmp_eq w (hb hby dcp3_17) (by decide) (pc1 := 20) rfl (pc2 := 57) rfl (fun ct13 => ?_) (fun ct13 => ?_)
  · skip
    refine s_aload_n w (hb hby dcp3_20) rfl rfl (pc' := 21) rfl ?_
    refine s_iload_n w (hb hby dcp3_21) rfl (pc' := 22) rfl ?_
    refine s_iload_n w (hb hby dcp3_22) rfl (pc' := 23) rfl ?_
    refine w_staticN w hEL (y := (⟨"java/lang/StringUTF16", "toBytes", "([CII)[B"⟩ : MethodName)) (hw _ (List.mem_of_getElem? (i := 264) rfl)) (hw _ (List.mem_of_getElem? (i := 265) rfl)) (hw _ (List.mem_of_getElem? (i := 22) rfl)) (hw _ (List.mem_of_getElem? (i := 266) rfl)) (by decide) (rm_tob G0 h9 b N kb cs hN hB Kb1) all0 all0 (argsL := [.ref b, .int 0, .int N]) (rest := []) (lenOf (by decide +kernel : parseMethodDescriptor "([CII)[B" = some ⟨[(.array .char), .int, .int], (some (.array .byte))⟩) rfl) rfl rfl (hb hby dcp3_23) (by rw [hml]; rfl) (W := 0) (Nat.le_of_eq rfl) (by decide) (by decide) (by decide) (by decide) (pc' := 26) rfl fun u14 N18 T h15 w K16 P17 => ?_
    obtain ⟨t19, kt20, rfl, rfl, q21, A22⟩ := P17
    have E23 := Keep.ext0 K16
    show Run p e below _ T (mkF m 26 #[.val (.ref b), .val (.int 0), .val (.int N), .val (.ref x2), .val (.int (Int32.ofNat r0)), .unset] [.ref t19])
    refine s_astore w #[.val (.ref b), .val (.int 0), .val (.int N), .val (.ref x2), .val (.int (Int32.ofNat r0)), .val (.ref t19)] (hb hby dcp3_26) rfl rfl (pc' := 28) rfl ?_
    refine s_aload w (hb hby dcp3_28) rfl rfl (pc' := 30) rfl ?_
    refine s_iload w (hb hby dcp3_30) rfl (pc' := 32) rfl ?_
    have hr2 := hr.elim (fun z => absurd (by rw [hN, z.1]) ct13) id
    refine w_static w hEL (y := (⟨"java/lang/StringUTF16", "getChar", "([BI)C"⟩ : MethodName)) (hw _ (List.mem_of_getElem? (i := 258) rfl)) (hw _ (List.mem_of_getElem? (i := 259) rfl)) (hw _ (List.mem_of_getElem? (i := 22) rfl)) (hw _ (List.mem_of_getElem? (i := 260) rfl)) (by decide) (rm_gch G0 h15 t19 _ r0 rfl kt20 cs _ rfl A22 hr2.1 hl32 hcs) all0 all0 (argsL := [.ref t19, .int (Int32.ofNat r0)]) (rest := []) (lenOf (by decide +kernel : parseMethodDescriptor "([BI)C" = some ⟨[(.array .byte), .int], (some .char)⟩) rfl) rfl rfl (hb hby dcp3_32) (by rw [hml]; rfl) (W := 0) (Nat.le_of_eq rfl) (by decide) (by decide) (by decide) (by decide) (pc' := 35) rfl fun u24 T h25 w K26 P27 => ?_
    obtain ⟨rfl, rfl⟩ := P27
    show Run p e below _ T (mkF m 35 #[.val (.ref b), .val (.int 0), .val (.int N), .val (.ref x2), .val (.int (Int32.ofNat r0)), .val (.ref t19)] [.int (cs.getD r0 0)])
    refine s_sipush w (hb hby dcp3_35) (v := 255) rfl (pc' := 38) rfl ?_
    refine s_icmp_gt w (hb hby dcp3_38) (by decide) (pc1 := 41) rfl (pc2 := 54) rfl (fun ct28 => ?_) (fun ct28 => ?_)
    · exact absurd hr2.2 ct28
    · skip
      refine s_aload w (hb hby dcp3_54) rfl rfl (pc' := 56) rfl ?_
      exact w_areturn w hEL hs hlk hret rfl rfl (hb hby dcp3_56) (by decide) (by decide) ⟨t19, kt20, 1, _, _, rfl, Nat.le_trans E12.1 q21, A22, Or.inr ⟨rfl, rfl, rfl, _, getD_memC hr2.1, hr2.2⟩⟩
  · skip
    refine s_aload_n w (hb hby dcp3_57) rfl rfl (pc' := 58) rfl ?_
    have hr1 := hr.elim id (fun z => absurd (ofN_inj (by omega) (by omega) (ct13.trans hN)) (Nat.ne_of_lt z.1))
    exact w_areturn w hEL hs hlk hret rfl rfl (hb hby dcp3_58) (by decide) (by decide) ⟨x2, _, 0, _, _, rfl, q5, hr1.2.2, Or.inl ⟨rfl, hN, rfl, hr1.2.1⟩⟩
theorem dcfl_0 : decode jdk_52_method_15_code 0 = .ok (.iload_n 1, 1) := by decide +kernel
theorem dcfl_1 : decode jdk_52_method_15_code 1 = .ok (.aload_n 0, 1) := by decide +kernel
theorem dcfl_2 : decode jdk_52_method_15_code 2 = .ok (.arraylength, 1) := by decide +kernel
theorem dcfl_3 : decode jdk_52_method_15_code 3 = .ok (.isub, 1) := by decide +kernel
theorem dcfl_4 : decode jdk_52_method_15_code 4 = .ok (.bipush 31, 2) := by decide +kernel
theorem dcfl_6 : decode jdk_52_method_15_code 6 = .ok (.iushr, 1) := by decide +kernel
theorem dcfl_7 : decode jdk_52_method_15_code 7 = .ok (.i2b, 1) := by decide +kernel
theorem dcfl_8 : decode jdk_52_method_15_code 8 = .ok (.ireturn, 1) := by decide +kernel
theorem ef_cfl (m : MethodId) (t : Addr) (N : Int32) : entryFrame m #[.ref t, .int N] 2 = mkF m 0 #[.val (.ref t), .val (.int N)] [] := by first | (simp [entryFrame, mkF, argsToLocals, Value.category]; done) | rfl
set_option maxRecDepth 65536 in
set_option maxHeartbeats 40000000 in
theorem rm_cfl {l : Launch} {Z : State} {a0 : Array Value} {zc : Int32} {fm : Value} (G : Gl Z a0 zc fm) (h : Heap) (t : Addr) (N : Int32) (kt : ClassId) (cs : List Int32) (cd N2 : Int32) (vs : List Value) (A : Arv Z h t kt .byte N2 vs (.int 0)) (C : CodA cs cd N2 vs) (hN : N = Int32.ofNat cs.length) (h0 : 0 < cs.length) (hl : cs.length ≤ 32) :
    Met l Z consts_1 (⟨"java/lang/StringUTF16", "coderFromArrayLen", "([BI)B"⟩ : MethodName) jdk_52_method_15_code 2 (some .byte) ({ frames := 0, cells := 0, slots := 0, locals := 0 } : Room) #[.ref t, .int N] h [] [] (fun v h' => v = some (.int cd) ∧ h = h') := by
  have G0 := G
  obtain ⟨hw, hEL, SC, hz, SF, hfm, SA, SH, SL⟩ := G
  have hw1 : ∀ d ∈ StrChars.Road.words, d.before a0 Z = true := fun d q => hw d (sub1 d q)
  have hwA : ∀ d ∈ Bundle.stringAtoms, d.before a0 Z = true := fun d q => hw d (subA d q)
  refine Met.of (plainFor_of_name pn_0) ?_
  intro p e s m below meth c T hnm hret hlk hby hml hs w
  have hZ0 := w.old
  refine Run.cast (ef_cfl m t N) ?_
  refine s_iload_n w (hb hby dcfl_0) rfl (pc' := 1) rfl ?_
  refine s_aload_n w (hb hby dcfl_1) rfl rfl (pc' := 2) rfl ?_
  refine w_len w A (hb hby dcfl_2) (pc' := 3) rfl ?_
  refine s_isub w (hb hby dcfl_3) (pc' := 4) rfl ?_
  refine s_bipush w (hb hby dcfl_4) (v := 31) rfl (pc' := 6) rfl ?_
  refine s_iushr w (hb hby dcfl_6) (pc' := 7) rfl ?_
  refine s_i2b w (hb hby dcfl_7) (pc' := 8) rfl ?_
  rw [coda_coder C hN h0 hl]
  exact w_ireturn w hEL hs hlk hret (coda_bit C).1 (Or.inr (Or.inr (Or.inl rfl))) (hb hby dcfl_8) (by decide) (by decide) ⟨rfl, rfl⟩
theorem din4_0 : decode jdk_42_method_149_code 0 = .ok (.aload_n 0, 1) := by decide +kernel
theorem din4_1 : decode jdk_42_method_149_code 1 = .ok (.invokespecial 1, 3) := by decide +kernel
theorem din4_4 : decode jdk_42_method_149_code 4 = .ok (.iload_n 3, 1) := by decide +kernel
theorem din4_5 : decode jdk_42_method_149_code 5 = .ok (.ifCond .ne 22, 3) := by decide +kernel
theorem din4_8 : decode jdk_42_method_149_code 8 = .ok (.aload_n 0, 1) := by decide +kernel
theorem din4_9 : decode jdk_42_method_149_code 9 = .ok (.ldc 7, 2) := by decide +kernel
theorem din4_11 : decode jdk_42_method_149_code 11 = .ok (.getfield 9, 3) := by decide +kernel
theorem din4_14 : decode jdk_42_method_149_code 14 = .ok (.putfield 9, 3) := by decide +kernel
theorem din4_17 : decode jdk_42_method_149_code 17 = .ok (.aload_n 0, 1) := by decide +kernel
theorem din4_18 : decode jdk_42_method_149_code 18 = .ok (.ldc 7, 2) := by decide +kernel
theorem din4_20 : decode jdk_42_method_149_code 20 = .ok (.getfield 15, 3) := by decide +kernel
theorem din4_23 : decode jdk_42_method_149_code 23 = .ok (.putfield 15, 3) := by decide +kernel
theorem din4_26 : decode jdk_42_method_149_code 26 = .ok (.return_, 1) := by decide +kernel
theorem din4_27 : decode jdk_42_method_149_code 27 = .ok (.getstatic 38, 3) := by decide +kernel
theorem din4_30 : decode jdk_42_method_149_code 30 = .ok (.ifCond .eq 28, 3) := by decide +kernel
theorem din4_33 : decode jdk_42_method_149_code 33 = .ok (.aload_n 1, 1) := by decide +kernel
theorem din4_34 : decode jdk_42_method_149_code 34 = .ok (.iload_n 2, 1) := by decide +kernel
theorem din4_35 : decode jdk_42_method_149_code 35 = .ok (.iload_n 3, 1) := by decide +kernel
theorem din4_36 : decode jdk_42_method_149_code 36 = .ok (.invokestatic 177, 3) := by decide +kernel
theorem din4_39 : decode jdk_42_method_149_code 39 = .ok (.astore 5, 2) := by decide +kernel
theorem din4_41 : decode jdk_42_method_149_code 41 = .ok (.aload_n 0, 1) := by decide +kernel
theorem din4_42 : decode jdk_42_method_149_code 42 = .ok (.aload 5, 2) := by decide +kernel
theorem din4_44 : decode jdk_42_method_149_code 44 = .ok (.iload_n 3, 1) := by decide +kernel
theorem din4_45 : decode jdk_42_method_149_code 45 = .ok (.invokestatic 47, 3) := by decide +kernel
theorem din4_48 : decode jdk_42_method_149_code 48 = .ok (.putfield 15, 3) := by decide +kernel
theorem din4_51 : decode jdk_42_method_149_code 51 = .ok (.aload_n 0, 1) := by decide +kernel
theorem din4_52 : decode jdk_42_method_149_code 52 = .ok (.aload 5, 2) := by decide +kernel
theorem din4_54 : decode jdk_42_method_149_code 54 = .ok (.putfield 9, 3) := by decide +kernel
theorem din4_57 : decode jdk_42_method_149_code 57 = .ok (.return_, 1) := by decide +kernel
theorem din4_58 : decode jdk_42_method_149_code 58 = .ok (.aload_n 0, 1) := by decide +kernel
theorem din4_59 : decode jdk_42_method_149_code 59 = .ok (.iconst 1, 1) := by decide +kernel
theorem din4_60 : decode jdk_42_method_149_code 60 = .ok (.putfield 15, 3) := by decide +kernel
theorem din4_63 : decode jdk_42_method_149_code 63 = .ok (.aload_n 0, 1) := by decide +kernel
theorem din4_64 : decode jdk_42_method_149_code 64 = .ok (.aload_n 1, 1) := by decide +kernel
theorem din4_65 : decode jdk_42_method_149_code 65 = .ok (.iload_n 2, 1) := by decide +kernel
theorem din4_66 : decode jdk_42_method_149_code 66 = .ok (.iload_n 3, 1) := by decide +kernel
theorem din4_67 : decode jdk_42_method_149_code 67 = .ok (.invokestatic 180, 3) := by decide +kernel
theorem din4_70 : decode jdk_42_method_149_code 70 = .ok (.putfield 9, 3) := by decide +kernel
theorem din4_73 : decode jdk_42_method_149_code 73 = .ok (.return_, 1) := by decide +kernel
theorem pn_1 : plainName "java/lang/String" = true := by first | (simp [plainName, overriddenIn]; done) | decide +kernel
theorem ef_in4 (m : MethodId) (x : Addr) (b : Addr) (N : Int32) : entryFrame m #[.ref x, .ref b, .int 0, .int N, .null] 6 = mkF m 0 #[.val (.ref x), .val (.ref b), .val (.int 0), .val (.int N), .val (.null), .unset] [] := by first | (simp [entryFrame, mkF, argsToLocals, Value.category]; done) | rfl
set_option maxRecDepth 65536 in
set_option maxHeartbeats 40000000 in
theorem rm_in4 {l : Launch} {Z : State} {a0 : Array Value} {zc : Int32} {fm : Value} (G : Gl Z a0 zc fm) (h : Heap) (x : Addr) (b : Addr) (N : Int32) (kb : ClassId) (cs : List Int32) (v0 v1 : Value) (hN : N = Int32.ofNat cs.length) (h0n : 0 < cs.length) (hB : cs.length ≤ 16) (hcs : ∀ c ∈ cs, Chr c) (K : Arv Z h b kb .char N (cs.map Value.int) (.int 0)) (E0 : Exa Z h x ST) (F_v : Fld Z h x ST "value" "[B" v0) (F_c : Fld Z h x ST "coder" "B" v1) :
    Met l Z consts_1 (⟨"java/lang/String", "<init>", "([CIILjava/lang/Void;)V"⟩ : MethodName) jdk_42_method_149_code 6 none ({ frames := 4, cells := 2, slots := 48, locals := 57 } : Room) #[.ref x, .ref b, .int 0, .int N, .null] h [x] [x] (fun v h' => v = none ∧ Str Z h' x cs) := by
  have G0 := G
  obtain ⟨hw, hEL, SC, hz, SF, hfm, SA, SH, SL⟩ := G
  have hw1 : ∀ d ∈ StrChars.Road.words, d.before a0 Z = true := fun d q => hw d (sub1 d q)
  have hwA : ∀ d ∈ Bundle.stringAtoms, d.before a0 Z = true := fun d q => hw d (subA d q)
  refine Met.of (plainFor_of_name pn_1) ?_
  intro p e s m below meth c T hnm hret hlk hby hml hs w
  have hZ0 := w.old
  refine Run.cast (ef_in4 m x b N) ?_
  refine s_aload_n w (hb hby din4_0) rfl rfl (pc' := 1) rfl ?_
  refine w_objInit w (hw _ (List.mem_of_getElem? (i := 16) rfl)) (hw _ (List.mem_of_getElem? (i := 17) rfl)) (hw _ (List.mem_of_getElem? (i := 18) rfl)) (hb hby din4_1) (by rw [hml]; rfl) (by decide) (W := 0) (Nat.le_of_eq rfl) (by decide) (pc' := 4) rfl fun T w => ?_
  refine s_iload_n w (hb hby din4_4) rfl (pc' := 5) rfl ?_
  refine s_if_ne w (hb hby din4_5) (by decide) (pc1 := 8) rfl (pc2 := 27) rfl (fun ct1 => ?_) (fun ct1 => ?_)
  · exact absurd (ofN_inj (k := 0) (by omega) (by omega) (hN.symm.trans ct1)) (by omega)
  · skip
    refine w_getS w (hw _ (List.mem_of_getElem? (i := 19) rfl)) Via.refl (SC.ext w.old) (hb hby din4_27) (pc' := 30) rfl fun T w => ?_
    refine s_if_eq w (hb hby din4_30) (by decide) (pc1 := 33) rfl (pc2 := 58) rfl (fun ct2 => ?_) (fun ct2 => ?_)
    · skip
      refine s_aload_n w (hb hby din4_33) rfl rfl (pc' := 34) rfl ?_
      refine s_iload_n w (hb hby din4_34) rfl (pc' := 35) rfl ?_
      refine s_iload_n w (hb hby din4_35) rfl (pc' := 36) rfl ?_
      refine w_static w hEL (y := (⟨"java/lang/StringUTF16", "compress", "([CII)[B"⟩ : MethodName)) (hw _ (List.mem_of_getElem? (i := 20) rfl)) (hw _ (List.mem_of_getElem? (i := 21) rfl)) (hw _ (List.mem_of_getElem? (i := 22) rfl)) (hw _ (List.mem_of_getElem? (i := 23) rfl)) (by decide) (rm_cp3 G0 h b N kb cs hN hB hcs K) all0 all0 (argsL := [.ref b, .int 0, .int N]) (rest := []) (lenOf (by decide +kernel : parseMethodDescriptor "([CII)[B" = some ⟨[(.array .char), .int, .int], (some (.array .byte))⟩) rfl) rfl rfl (hb hby din4_36) (by rw [hml]; rfl) (W := 0) (Nat.le_of_eq rfl) (by decide) (by decide) (by decide) (by decide) (pc' := 39) rfl fun u3 T h4 w K5 P6 => ?_
      obtain ⟨t, kt, cd, N2, vs, rfl, ht, At, Ct⟩ := P6
      have E7 := Keep.ext0 K5
      have E1 := E7
      show Run p e below _ T (mkF m 39 #[.val (.ref x), .val (.ref b), .val (.int 0), .val (.int N), .val (.null), .unset] [.ref t])
      refine s_astore w #[.val (.ref x), .val (.ref b), .val (.int 0), .val (.int N), .val (.null), .val (.ref t)] (hb hby din4_39) rfl rfl (pc' := 41) rfl ?_
      refine s_aload_n w (hb hby din4_41) rfl rfl (pc' := 42) rfl ?_
      refine s_aload w (hb hby din4_42) rfl rfl (pc' := 44) rfl ?_
      refine s_iload_n w (hb hby din4_44) rfl (pc' := 45) rfl ?_
      refine w_static w hEL (y := (⟨"java/lang/StringUTF16", "coderFromArrayLen", "([BI)B"⟩ : MethodName)) (hw _ (List.mem_of_getElem? (i := 28) rfl)) (hw _ (List.mem_of_getElem? (i := 29) rfl)) (hw _ (List.mem_of_getElem? (i := 22) rfl)) (hw _ (List.mem_of_getElem? (i := 30) rfl)) (by decide) (rm_cfl G0 h4 t N kt cs cd N2 vs At Ct hN h0n (by omega)) all0 all0 (argsL := [.ref t, .int N]) (rest := [.ref x]) (lenOf (by decide +kernel : parseMethodDescriptor "([BI)B" = some ⟨[(.array .byte), .int], (some .byte)⟩) rfl) rfl rfl (hb hby din4_45) (by rw [hml]; rfl) (W := 1) (Nat.le_of_eq rfl) (by decide) (by decide) (by decide) (by decide) (pc' := 48) rfl fun u8 T h9 w K10 P11 => ?_
      obtain ⟨rfl, rfl⟩ := P11
      show Run p e below _ T (mkF m 48 #[.val (.ref x), .val (.ref b), .val (.int 0), .val (.int N), .val (.null), .val (.ref t)] [.int cd, .ref x])
      have nxt : t ≠ x := fun z => by obtain ⟨cl, k0, A, -⟩ := E0; have := (Array.getElem?_eq_some_iff.mp A).1; rw [← z] at this; exact absurd ht (Nat.not_le.mpr this)
      have sn : Jvm.RoadKit.slotOf Z "java/lang/String" "value" "[B" ≠ Jvm.RoadKit.slotOf Z "java/lang/String" "coder" "B" := slot_ne (Or.inr (hw _ (List.mem_of_getElem? (i := 34) rfl))) (Or.inr (hw _ (List.mem_of_getElem? (i := 32) rfl))) (by decide) (t := .array .byte) (t' := .byte) (by decide) (by decide)
      refine w_putF w (hw _ (List.mem_of_getElem? (i := 31) rfl)) Via.refl (F_c.ext E1) (E0.ext E1) (Or.inr ⟨(hw _ (List.mem_of_getElem? (i := 32) rfl)), rfl, hnm⟩) (hw _ (List.mem_of_getElem? (i := 6) rfl)) (ty := .byte) (by decide) (coda_bit Ct).1 (coda_bit Ct).2 (hb hby din4_48) (Or.inl (List.mem_singleton.mpr rfl)) (Or.inr (List.mem_singleton.mpr rfl)) (pc' := 51) rfl fun T g1 w W1 F1 X1 => ?_
      refine s_aload_n w (hb hby din4_51) rfl rfl (pc' := 52) rfl ?_
      refine s_aload w (hb hby din4_52) rfl rfl (pc' := 54) rfl ?_
      refine w_putF w (hw _ (List.mem_of_getElem? (i := 33) rfl)) Via.refl ((F_v.ext E1).other W1 (Or.inr sn)) X1 (Or.inr ⟨(hw _ (List.mem_of_getElem? (i := 34) rfl)), rfl, hnm⟩) (hw _ (List.mem_of_getElem? (i := 6) rfl)) (ty := (.array .byte)) (by decide) rfl rfl (hb hby din4_54) (Or.inl (List.mem_singleton.mpr rfl)) (Or.inr (List.mem_singleton.mpr rfl)) (pc' := 57) rfl fun T g2 w W2 F2 X2 => ?_
      exact w_return w hEL hs hlk hret (hb hby din4_57) (by decide) (by decide) ⟨rfl, X2, t, kt, cd, N2, vs, F2, F1.other W2 (Or.inr sn.symm), (At.other W1 nxt).other W2 nxt, Ct, hcs, by omega⟩
    · exact absurd ct2 hz
theorem din1_0 : decode jdk_42_method_3_code 0 = .ok (.aload_n 0, 1) := by decide +kernel
theorem din1_1 : decode jdk_42_method_3_code 1 = .ok (.aload_n 1, 1) := by decide +kernel
theorem din1_2 : decode jdk_42_method_3_code 2 = .ok (.iconst 0, 1) := by decide +kernel
theorem din1_3 : decode jdk_42_method_3_code 3 = .ok (.aload_n 1, 1) := by decide +kernel
theorem din1_4 : decode jdk_42_method_3_code 4 = .ok (.arraylength, 1) := by decide +kernel
theorem din1_5 : decode jdk_42_method_3_code 5 = .ok (.aconst_null, 1) := by decide +kernel
theorem din1_6 : decode jdk_42_method_3_code 6 = .ok (.invokespecial 27, 3) := by decide +kernel
theorem din1_9 : decode jdk_42_method_3_code 9 = .ok (.return_, 1) := by decide +kernel
theorem ef_in1 (m : MethodId) (x : Addr) (b : Addr) : entryFrame m #[.ref x, .ref b] 2 = mkF m 0 #[.val (.ref x), .val (.ref b)] [] := by first | (simp [entryFrame, mkF, argsToLocals, Value.category]; done) | rfl
set_option maxRecDepth 65536 in
set_option maxHeartbeats 40000000 in
theorem rm_in1 {l : Launch} {Z : State} {a0 : Array Value} {zc : Int32} {fm : Value} (G : Gl Z a0 zc fm) (h : Heap) (x : Addr) (b : Addr) (N : Int32) (kb : ClassId) (cs : List Int32) (v0 v1 : Value) (hN : N = Int32.ofNat cs.length) (h0n : 0 < cs.length) (hB : cs.length ≤ 16) (hcs : ∀ c ∈ cs, Chr c) (K : Arv Z h b kb .char N (cs.map Value.int) (.int 0)) (E0 : Exa Z h x ST) (F_v : Fld Z h x ST "value" "[B" v0) (F_c : Fld Z h x ST "coder" "B" v1) :
    Met l Z consts_1 (⟨"java/lang/String", "<init>", "([C)V"⟩ : MethodName) jdk_42_method_3_code 2 none ({ frames := 5, cells := 2, slots := 48, locals := 74 } : Room) #[.ref x, .ref b] h [x] [x] (fun v h' => v = none ∧ Str Z h' x cs) := by
  have G0 := G
  obtain ⟨hw, hEL, SC, hz, SF, hfm, SA, SH, SL⟩ := G
  have hw1 : ∀ d ∈ StrChars.Road.words, d.before a0 Z = true := fun d q => hw d (sub1 d q)
  have hwA : ∀ d ∈ Bundle.stringAtoms, d.before a0 Z = true := fun d q => hw d (subA d q)
  refine Met.of (plainFor_of_name pn_1) ?_
  intro p e s m below meth c T hnm hret hlk hby hml hs w
  have hZ0 := w.old
  refine Run.cast (ef_in1 m x b) ?_
  refine s_aload_n w (hb hby din1_0) rfl rfl (pc' := 1) rfl ?_
  refine s_aload_n w (hb hby din1_1) rfl rfl (pc' := 2) rfl ?_
  refine s_iconst w (hb hby din1_2) (v := 0) rfl (pc' := 3) rfl ?_
  refine s_aload_n w (hb hby din1_3) rfl rfl (pc' := 4) rfl ?_
  refine w_len w K (hb hby din1_4) (pc' := 5) rfl ?_
  refine s_anull w (hb hby din1_5) (pc' := 6) rfl ?_
  refine w_special w hEL (y := (⟨"java/lang/String", "<init>", "([CIILjava/lang/Void;)V"⟩ : MethodName)) (a := x) rfl (hw _ (List.mem_of_getElem? (i := 12) rfl)) (hw _ (List.mem_of_getElem? (i := 13) rfl)) (hw _ (List.mem_of_getElem? (i := 7) rfl)) (hw _ (List.mem_of_getElem? (i := 15) rfl)) (by decide) (rm_in4 G0 h x b N kb cs v0 v1 hN h0n hB hcs K E0 F_v F_c) (allS (List.mem_of_getElem? (i := 0) rfl) all0) (allP (Or.inl (List.mem_singleton.mpr rfl))) (argsL := [.ref b, .int 0, .int N, .null]) (rest := []) (lenOf (by decide +kernel : parseMethodDescriptor "([CIILjava/lang/Void;)V" = some ⟨[(.array .char), .int, .int, (.object "java/lang/Void")], none⟩) rfl) rfl rfl (hb hby din1_6) (by rw [hml]; rfl) (W := 0) (Nat.le_of_eq rfl) (by decide) (by decide) (by decide) (by decide) (pc' := 9) rfl fun u1 T h2 w K3 P4 => ?_
  obtain ⟨rfl, P9⟩ := P4
  show Run p e below _ T (mkF m 9 #[.val (.ref x), .val (.ref b)] [])
  exact w_return w hEL hs hlk hret (hb hby din1_9) (by decide) (by decide) ⟨rfl, P9⟩
theorem subL : ∀ d ∈ StrChars.Road.wordsLen, d ∈ tables_1 := by decide +kernel
abbrev SBC : String := "java/lang/StringBuilder"
abbrev ASB : String := "java/lang/AbstractStringBuilder"
def low (cs : List Int32) : List Value := cs.map fun c => Value.int (lo8 c)
def room_ (cs : List Int32) (cap : Nat) : List Value := low cs ++ List.replicate (cap - cs.length) (.int 0)
theorem low_len (cs : List Int32) : (low cs).length = cs.length := by simp [low]
theorem room_len {cs : List Int32} {cap : Nat} (h : cs.length ≤ cap) : (room_ cs cap).length = cap := by simp [room_, low]; omega
theorem range_low (ds : List Int32) : low ds = (List.range ds.length).map fun i => (low ds).getD (0 + i) (.int 0) := by
  refine List.ext_getElem (by simp [low]) fun i h1 h2 => ?_
  simp [low] at h1 ⊢
  simp [List.getD, h1]
theorem range_take {vs : List Value} {n : Nat} {d : Value} (h : n ≤ vs.length) : vs.take n = (List.range n).map fun i => vs.getD (0 + i) d := by
  refine List.ext_getElem (by simp; omega) fun i h1 h2 => ?_
  have hi : i < n := by simpa using h2
  simp [List.getD, show i < vs.length by omega]
theorem room_put {cs ds : List Int32} {cap : Nat} (h : cs.length + ds.length ≤ cap) : (room_ cs cap).take cs.length ++ low ds ++ (room_ cs cap).drop (cs.length + ds.length) = room_ (cs ++ ds) cap := by
  have e1 : (room_ cs cap).take cs.length = low cs := by rw [room_, ← low_len cs, List.take_left']; rfl
  have e2 : (room_ cs cap).drop (cs.length + ds.length) = List.replicate (cap - (cs ++ ds).length) (.int 0) := by
    rw [room_, List.drop_append, low_len, List.drop_replicate]
    have : (low cs).drop (cs.length + ds.length) = [] := List.drop_eq_nil_of_le (by rw [low_len]; omega)
    rw [this, List.nil_append, List.length_append]
    congr 1; omega
  rw [e1, e2, room_]; simp [low]
theorem room_take {cs : List Int32} {cap : Nat} : (room_ cs cap).take cs.length = low cs := by rw [room_, ← low_len cs, List.take_left']; rfl
theorem room_nil (cap : Nat) : room_ [] cap = List.replicate cap (.int 0) := by simp [room_, low]
theorem shl0 (x : Int32) : x <<< ((0 : Int32) &&& 31) = x := by
  rw [show ((0 : Int32) &&& 31) = 0 from by decide]
  simp
theorem shr0' (x : Int32) : x >>> ((0 : Int32) &&& 31) = x := by
  rw [show ((0 : Int32) &&& 31) = 0 from by decide]
  simp
theorem sub_le {n m : Nat} (h : n ≤ m) (h' : m ≤ 4000) : ¬ (0 : Int32) < Int32.ofNat n - Int32.ofNat m := by
  rw [Int32.lt_iff_toInt_lt, i32_0]
  have q := c_isub (Int32.ofNat n) (Int32.ofNat m)
  have r := rng32 (Int32.ofNat n - Int32.ofNat m)
  rw [Int32.toInt_ofNat_of_lt (by omega), Int32.toInt_ofNat_of_lt (by omega)] at q
  omega
theorem ofN_inj' {n k : Nat} (h : n ≤ 4000) (h' : k ≤ 4000) (q : Int32.ofNat n = Int32.ofNat k) : n = k := by
  have e := congrArg Int32.toNatClampNeg q
  rwa [ofNat_nat h, ofNat_nat h'] at e
theorem keepNe {h h' : Heap} {x b t : Addr} (n1 : x ≠ b) (n2 : x ≠ t) : x ∉ [b, t] := ninS n1 (ninS n2 nin0)
/-- a StringBuilder that holds the signs cs in an array t of cap bytes -/
def Sb (Z : State) (h : Heap) (b t : Addr) (kt : ClassId) (cap : Nat) (cs : List Int32) : Prop := Exa Z h b SBC ∧ Fld Z h b ASB "value" "[B" (.ref t) ∧ Fld Z h b ASB "coder" "B" (.int 0) ∧ Fld Z h b ASB "count" "I" (.int (Int32.ofNat cs.length)) ∧ Arv Z h t kt .byte (Int32.ofNat cap) (room_ cs cap) (.int 0) ∧ cs.length ≤ cap ∧ cap ≤ 2000
theorem Sb.ext {Z : State} {h h' : Heap} {b t : Addr} {kt : ClassId} {cap : Nat} {cs : List Int32} (F : Sb Z h b t kt cap cs) (E : Ext h h') : Sb Z h' b t kt cap cs := by
  obtain ⟨a1, a2, a3, a4, a5, a6⟩ := F
  exact ⟨a1.ext E, a2.ext E, a3.ext E, a4.ext E, a5.ext E, a6⟩
/-- a String of Latin-1 signs ds in the array t -/
def SL (Z : State) (h : Heap) (x t : Addr) (kt : ClassId) (ds : List Int32) : Prop := Exa Z h x ST ∧ Fld Z h x ST "value" "[B" (.ref t) ∧ Fld Z h x ST "coder" "B" (.int 0) ∧ Arv Z h t kt .byte (Int32.ofNat ds.length) (low ds) (.int 0) ∧ (∀ c ∈ ds, Lat c) ∧ ds.length ≤ 2000
theorem SL.ext {Z : State} {h h' : Heap} {x t : Addr} {kt : ClassId} {cs : List Int32} (F : SL Z h x t kt cs) (E : Ext h h') : SL Z h' x t kt cs := by
  obtain ⟨a1, a2, a3, a5, a6⟩ := F
  exact ⟨a1.ext E, a2.ext E, a3.ext E, a5.ext E, a6⟩
theorem lat_chr {c : Int32} (h : Lat c) : ¬ c < 0 ∧ ¬ (65535 : Int32) < c := ⟨h.1, fun z => h.2 (by
  rw [Int32.lt_iff_toInt_lt] at z ⊢
  have e1 : (65535 : Int32).toInt = 65535 := by decide
  rw [i32_255]; omega)⟩
theorem SL.str {Z : State} {h : Heap} {x t : Addr} {kt : ClassId} {cs : List Int32} (F : SL Z h x t kt cs) : Str Z h x cs := by
  obtain ⟨a1, a2, a3, a4, a5, a6⟩ := F
  exact ⟨a1, t, kt, 0, _, _, a2, a3, a4, Or.inl ⟨rfl, rfl, rfl, fun c q => (a5 c q).2⟩, fun c q => lat_chr (a5 c q), by omega⟩
theorem Str.sl {Z : State} {h : Heap} {x : Addr} {cs : List Int32} (F : Str Z h x cs) (hc : ∀ c ∈ cs, Lat c) (hl : cs.length ≤ 2000) : ∃ t kt, SL Z h x t kt cs := by
  obtain ⟨t, kb, q1, q2, q3, q4⟩ := F.lat hc
  exact ⟨t, kb, F.1, q1, q2, q3, hc, hl⟩
theorem neExa {Z : State} {h : Heap} {a b : Addr} {C D : String} (E : Exa Z h a C) (F : Exa Z h b D) (hn : C ≠ D) : a ≠ b := ne_exa E F hn
theorem notMem2 {x a b : Addr} (h1 : x ≠ a) (h2 : x ≠ b) : x ∉ [a, b] := ninS h1 (ninS h2 nin0)

def wroom (cs : List Int32) (cap : Nat) : List Value := wideBytes cs ++ List.replicate (2 * (cap - cs.length)) (.int 0)
theorem wroom_len {cs : List Int32} {cap : Nat} (h : cs.length ≤ cap) : (wroom cs cap).length = 2 * cap := by simp [wroom, wide_len]; omega
theorem wide_app : ∀ a b : List Int32, wideBytes (a ++ b) = wideBytes a ++ wideBytes b
  | [], b => rfl
  | c :: a, b => by simp [wideBytes, wide_app a b]
theorem wroom_take {cs : List Int32} {cap : Nat} : (wroom cs cap).take (2 * cs.length) = wideBytes cs := by rw [wroom, ← wide_len cs, List.take_left']; rfl
theorem wroom_drop {cs : List Int32} {cap k : Nat} (h : cs.length + k ≤ cap) : (wroom cs cap).drop (2 * cs.length + 2 * k) = List.replicate (2 * (cap - (cs.length + k))) (.int 0) := by
  rw [wroom, List.drop_append, wide_len, List.drop_replicate]
  have : (wideBytes cs).drop (2 * cs.length + 2 * k) = [] := List.drop_eq_nil_of_le (by rw [wide_len]; omega)
  rw [this, List.nil_append]
  congr 1; omega
theorem wroom_put {cs ds : List Int32} {cap : Nat} (h : cs.length + ds.length ≤ cap) : (wroom cs cap).take (2 * cs.length) ++ wideBytes ds ++ (wroom cs cap).drop (2 * cs.length + 2 * ds.length) = wroom (cs ++ ds) cap := by
  rw [wroom_take, wroom_drop h, wroom, wide_app, List.length_append]
theorem set2 (P : List Value) (x y a b : Value) (R : List Value) : ((P ++ x :: y :: R).set P.length a).set (P.length + 1) b = P ++ a :: b :: R := by
  induction P with
  | nil => rfl
  | cons p P ih => simp
theorem drop2 {vd : List Value} {k : Nat} (h : k + 2 ≤ vd.length) : ∃ x y, vd.drop k = x :: y :: vd.drop (k + 2) := by
  rw [List.drop_eq_getElem_cons (by omega), List.drop_eq_getElem_cons (i := k + 1) (by omega)]
  exact ⟨_, _, rfl⟩
theorem take_one {ds : List Int32} {j : Nat} (h : j < ds.length) : ds.take (j + 1) = ds.take j ++ [ds.getD j 0] := by
  rw [List.take_add_one]; simp [List.getD, h]
theorem inf_step {vd : List Value} {ds : List Int32} {o j cap : Nat} (hv : vd.length = 2 * cap) (hj : j < ds.length) (hf : o + ds.length ≤ cap) :
    ((vd.take (2 * o) ++ wideBytes (ds.take j) ++ vd.drop (2 * (o + j))).set (2 * (o + j)) (.int (lo8 (ds.getD j 0)))).set (2 * (o + j) + 1) (.int (hi8 (ds.getD j 0))) = vd.take (2 * o) ++ wideBytes (ds.take (j + 1)) ++ vd.drop (2 * (o + (j + 1))) := by
  obtain ⟨x, y, e⟩ := drop2 (vd := vd) (k := 2 * (o + j)) (by omega)
  have hl : (vd.take (2 * o) ++ wideBytes (ds.take j)).length = 2 * (o + j) := by simp [wide_len]; omega
  have q := set2 (vd.take (2 * o) ++ wideBytes (ds.take j)) x y (.int (lo8 (ds.getD j 0))) (.int (hi8 (ds.getD j 0))) (vd.drop (2 * (o + j) + 2))
  rw [hl] at q
  rw [e, q, take_one hj, wide_app, show 2 * (o + (j + 1)) = 2 * (o + j) + 2 from by omega]
  simp [wideBytes]
theorem wrange (ds : List Int32) : wideBytes ds = (List.range (2 * ds.length)).map fun i => (wideBytes ds).getD (0 + i) (.int 0) := by
  rw [← wide_len ds]
  refine List.ext_getElem (by simp) fun i h1 h2 => ?_
  simp [List.getD, h1]
theorem room_get {cs : List Int32} {cap j : Nat} (h : j < cs.length) : (room_ cs cap).getD j (.int 0) = .int (lo8 (cs.getD j 0)) := by
  simp [room_, low, List.getD, List.getElem?_append, h]
theorem low_get {cs : List Int32} {j : Nat} (h : j < cs.length) : (low cs).getD j (.int 0) = .int (lo8 (cs.getD j 0)) := by
  simp [low, List.getD, h]
theorem shr1_ : ∀ n : Fin 33, (Int32.ofNat (2 * n.val)) >>> ((1 : Int32) &&& 31) = Int32.ofNat n.val := by decide
theorem ofN_shr {n : Nat} (h : n ≤ 32) : (Int32.ofNat (2 * n)) >>> ((1 : Int32) &&& 31) = Int32.ofNat n := shr1_ ⟨n, by omega⟩
theorem or3nn {a b c : Nat} (h1 : a ≤ 4000) (h2 : b ≤ 4000) (h3 : c ≤ 4000) : ¬ ((Int32.ofNat a ||| Int32.ofNat b) ||| Int32.ofNat c) < 0 := by
  have f : ∀ n : Nat, n ≤ 4000 → 0 ≤ (Int32.ofNat n).toInt := fun n h => by rw [Int32.toInt_ofNat_of_lt (by omega)]; omega
  rw [Int32.lt_iff_toInt_lt, i32_0]
  have q := (c_orS (Int32.ofNat a) (Int32.ofNat b)).1 (f a h1) (f b h2)
  have r := (c_orS (Int32.ofNat a ||| Int32.ofNat b) (Int32.ofNat c)).1 q (f c h3)
  omega
theorem sub_fit {n o cap : Nat} (h : o + n ≤ cap) (h' : cap ≤ 4000) : ¬ (Int32.ofNat cap - Int32.ofNat o) < Int32.ofNat n := by
  rw [Int32.lt_iff_toInt_lt]
  have q := c_isub (Int32.ofNat cap) (Int32.ofNat o)
  have r := rng32 (Int32.ofNat cap - Int32.ofNat o)
  rw [Int32.toInt_ofNat_of_lt (by omega), Int32.toInt_ofNat_of_lt (by omega)] at q
  rw [Int32.toInt_ofNat_of_lt (by omega)]
  omega
/-- a StringBuilder of Latin-1 / of wide contents, of capacity 16 -/
def Sb0 (Z : State) (h : Heap) (b t : Addr) (kt : ClassId) (cs : List Int32) : Prop := Exa Z h b SBC ∧ Fld Z h b ASB "value" "[B" (.ref t) ∧ Fld Z h b ASB "coder" "B" (.int 0) ∧ Fld Z h b ASB "count" "I" (.int (Int32.ofNat cs.length)) ∧ Fld Z h b ASB "maybeLatin1" "Z" (.int 0) ∧ Arv Z h t kt .byte (Int32.ofNat 16) (room_ cs 16) (.int 0) ∧ (∀ c ∈ cs, Lat c) ∧ cs.length ≤ 16
def Sb1 (Z : State) (h : Heap) (b t : Addr) (kt : ClassId) (cs : List Int32) : Prop := Exa Z h b SBC ∧ Fld Z h b ASB "value" "[B" (.ref t) ∧ Fld Z h b ASB "coder" "B" (.int 1) ∧ Fld Z h b ASB "count" "I" (.int (Int32.ofNat cs.length)) ∧ Fld Z h b ASB "maybeLatin1" "Z" (.int 0) ∧ Arv Z h t kt .byte (Int32.ofNat (2 * 16)) (wroom cs 16) (.int 0) ∧ ((∀ c ∈ cs, Chr c) ∧ ∃ c ∈ cs, (255 : Int32) < c) ∧ cs.length ≤ 16
/-- a builder on its way: inflated, before the wide signs are in -/
def Sbp (Z : State) (h : Heap) (b t : Addr) (kt : ClassId) (cs : List Int32) : Prop := Exa Z h b SBC ∧ Fld Z h b ASB "value" "[B" (.ref t) ∧ Fld Z h b ASB "coder" "B" (.int 1) ∧ Fld Z h b ASB "count" "I" (.int (Int32.ofNat cs.length)) ∧ Fld Z h b ASB "maybeLatin1" "Z" (.int 0) ∧ Arv Z h t kt .byte (Int32.ofNat (2 * 16)) (wroom cs 16) (.int 0) ∧ (∀ c ∈ cs, Chr c) ∧ cs.length ≤ 16
theorem Sb0.ext {Z : State} {h h' : Heap} {b t : Addr} {kt : ClassId} {cs : List Int32} (F : Sb0 Z h b t kt cs) (E : Ext h h') : Sb0 Z h' b t kt cs := by
  obtain ⟨a1, a2, a3, a4, a5, a6, a7⟩ := F
  exact ⟨a1.ext E, a2.ext E, a3.ext E, a4.ext E, a5.ext E, a6.ext E, a7⟩
theorem Sb1.ext {Z : State} {h h' : Heap} {b t : Addr} {kt : ClassId} {cs : List Int32} (F : Sb1 Z h b t kt cs) (E : Ext h h') : Sb1 Z h' b t kt cs := by
  obtain ⟨a1, a2, a3, a4, a5, a6, a7⟩ := F
  exact ⟨a1.ext E, a2.ext E, a3.ext E, a4.ext E, a5.ext E, a6.ext E, a7⟩
theorem Sb1.p {Z : State} {h : Heap} {b t : Addr} {kt : ClassId} {cs : List Int32} (F : Sb1 Z h b t kt cs) : Sbp Z h b t kt cs := by
  obtain ⟨a1, a2, a3, a4, a5, a6, a7, a8⟩ := F
  exact ⟨a1, a2, a3, a4, a5, a6, a7.1, a8⟩
/-- a String of coder 0 / 1 -/
def S0 (Z : State) (h : Heap) (x t : Addr) (kt : ClassId) (ds : List Int32) : Prop := Exa Z h x ST ∧ Fld Z h x ST "value" "[B" (.ref t) ∧ Fld Z h x ST "coder" "B" (.int 0) ∧ Arv Z h t kt .byte (Int32.ofNat ds.length) (low ds) (.int 0) ∧ (∀ c ∈ ds, Lat c) ∧ ds.length ≤ 8
def S1 (Z : State) (h : Heap) (x t : Addr) (kt : ClassId) (ds : List Int32) : Prop := Exa Z h x ST ∧ Fld Z h x ST "value" "[B" (.ref t) ∧ Fld Z h x ST "coder" "B" (.int 1) ∧ Arv Z h t kt .byte (Int32.ofNat (2 * ds.length)) (wideBytes ds) (.int 0) ∧ ((∀ c ∈ ds, Chr c) ∧ ∃ c ∈ ds, (255 : Int32) < c) ∧ ds.length ≤ 8
theorem Str.two {Z : State} {h : Heap} {x : Addr} {cs : List Int32} (F : Str Z h x cs) (hl : cs.length ≤ 8) : (∃ t kt, S0 Z h x t kt cs) ∨ ∃ t kt, S1 Z h x t kt cs := by
  obtain ⟨a, t, kb, cd, N2, vs, q1, q2, q3, q4, q5, q6⟩ := F
  rcases q4 with ⟨rfl, rfl, rfl, z⟩ | ⟨rfl, rfl, rfl, z⟩
  · exact Or.inl ⟨t, kb, a, q1, q2, q3, fun c q => ⟨(q5 c q).1, z c q⟩, hl⟩
  · exact Or.inr ⟨t, kb, a, q1, q2, q3, ⟨q5, z⟩, hl⟩
theorem S0.str {Z : State} {h : Heap} {x t : Addr} {kt : ClassId} {cs : List Int32} (F : S0 Z h x t kt cs) : Str Z h x cs := by
  obtain ⟨a1, a2, a3, a4, a5, a6⟩ := F
  exact ⟨a1, t, kt, 0, _, _, a2, a3, a4, Or.inl ⟨rfl, rfl, rfl, fun c q => (a5 c q).2⟩, fun c q => lat_chr (a5 c q), by omega⟩
theorem S1.str {Z : State} {h : Heap} {x t : Addr} {kt : ClassId} {cs : List Int32} (F : S1 Z h x t kt cs) : Str Z h x cs := by
  obtain ⟨a1, a2, a3, a4, a5, a6⟩ := F
  exact ⟨a1, t, kt, 1, _, _, a2, a3, a4, Or.inr ⟨rfl, rfl, rfl, a5.2⟩, a5.1, by omega⟩
theorem S0.ext {Z : State} {h h' : Heap} {x t : Addr} {kt : ClassId} {cs : List Int32} (F : S0 Z h x t kt cs) (E : Ext h h') : S0 Z h' x t kt cs := by
  obtain ⟨a1, a2, a3, a5, a6⟩ := F
  exact ⟨a1.ext E, a2.ext E, a3.ext E, a5.ext E, a6⟩
theorem S1.ext {Z : State} {h h' : Heap} {x t : Addr} {kt : ClassId} {cs : List Int32} (F : S1 Z h x t kt cs) (E : Ext h h') : S1 Z h' x t kt cs := by
  obtain ⟨a1, a2, a3, a5, a6⟩ := F
  exact ⟨a1.ext E, a2.ext E, a3.ext E, a5.ext E, a6⟩

theorem dcdr0_0 : decode jdk_42_method_152_code 0 = .ok (.getstatic 38, 3) := by decide +kernel
theorem dcdr0_3 : decode jdk_42_method_152_code 3 = .ok (.ifCond .eq 10, 3) := by decide +kernel
theorem dcdr0_6 : decode jdk_42_method_152_code 6 = .ok (.aload_n 0, 1) := by decide +kernel
theorem dcdr0_7 : decode jdk_42_method_152_code 7 = .ok (.getfield 15, 3) := by decide +kernel
theorem dcdr0_10 : decode jdk_42_method_152_code 10 = .ok (.goto 4, 3) := by decide +kernel
theorem dcdr0_13 : decode jdk_42_method_152_code 13 = .ok (.iconst 1, 1) := by decide +kernel
theorem dcdr0_14 : decode jdk_42_method_152_code 14 = .ok (.ireturn, 1) := by decide +kernel
theorem ef_cdr0 (m : MethodId) (x : Addr) : entryFrame m #[.ref x] 1 = mkF m 0 #[.val (.ref x)] [] := by first | (simp [entryFrame, mkF, argsToLocals, Value.category]; done) | rfl
set_option maxRecDepth 65536 in
set_option maxHeartbeats 40000000 in
theorem rm_cdr0 {l : Launch} {Z : State} {a0 : Array Value} {zc : Int32} {fm : Value} (G : Gl Z a0 zc fm) (h : Heap) (x : Addr) (C : Fld Z h x ST "coder" "B" (.int 0)) :
    Met l Z consts_1 (⟨"java/lang/String", "coder", "()B"⟩ : MethodName) jdk_42_method_152_code 1 (some .byte) ({ frames := 0, cells := 0, slots := 0, locals := 0 } : Room) #[.ref x] h [] [] (fun v h' => v = some (.int 0) ∧ h = h') := by
  have G0 := G
  obtain ⟨hw, hEL, SC, hz, SF, hfm, SA, SH, SL⟩ := G
  have hw1 : ∀ d ∈ StrChars.Road.words, d.before a0 Z = true := fun d q => hw d (sub1 d q)
  have hwA : ∀ d ∈ Bundle.stringAtoms, d.before a0 Z = true := fun d q => hw d (subA d q)
  refine Met.of (plainFor_of_name pn_1) ?_
  intro p e s m below meth c T hnm hret hlk hby hml hs w
  have hZ0 := w.old
  refine Run.cast (ef_cdr0 m x) ?_
  refine w_getS w (hw _ (List.mem_of_getElem? (i := 19) rfl)) Via.refl (SC.ext w.old) (hb hby dcdr0_0) (pc' := 3) rfl fun T w => ?_
  refine s_if_eq w (hb hby dcdr0_3) (by decide) (pc1 := 6) rfl (pc2 := 13) rfl (fun ct1 => ?_) (fun ct1 => ?_)
  · -- ¬ (zc = 0)
    refine s_aload_n w (hb hby dcdr0_6) rfl rfl (pc' := 7) rfl ?_
    refine w_getF w (hw _ (List.mem_of_getElem? (i := 31) rfl)) Via.refl C (hb hby dcdr0_7) (pc' := 10) rfl fun T w => ?_
    refine s_goto w (hb hby dcdr0_10) (by decide) (pc' := 14) rfl ?_
    exact w_ireturn w hEL hs hlk hret rfl (Or.inr (Or.inr (Or.inl rfl))) (hb hby dcdr0_14) (by decide) (by decide) ⟨rfl, rfl⟩
  · -- zc = 0
    refine s_iconst w (hb hby dcdr0_13) (v := 1) rfl (pc' := 14) rfl ?_
    exact absurd ct1 hz
theorem dcdr1_0 : decode jdk_42_method_152_code 0 = .ok (.getstatic 38, 3) := by decide +kernel
theorem dcdr1_3 : decode jdk_42_method_152_code 3 = .ok (.ifCond .eq 10, 3) := by decide +kernel
theorem dcdr1_6 : decode jdk_42_method_152_code 6 = .ok (.aload_n 0, 1) := by decide +kernel
theorem dcdr1_7 : decode jdk_42_method_152_code 7 = .ok (.getfield 15, 3) := by decide +kernel
theorem dcdr1_10 : decode jdk_42_method_152_code 10 = .ok (.goto 4, 3) := by decide +kernel
theorem dcdr1_13 : decode jdk_42_method_152_code 13 = .ok (.iconst 1, 1) := by decide +kernel
theorem dcdr1_14 : decode jdk_42_method_152_code 14 = .ok (.ireturn, 1) := by decide +kernel
theorem ef_cdr1 (m : MethodId) (x : Addr) : entryFrame m #[.ref x] 1 = mkF m 0 #[.val (.ref x)] [] := by first | (simp [entryFrame, mkF, argsToLocals, Value.category]; done) | rfl
set_option maxRecDepth 65536 in
set_option maxHeartbeats 40000000 in
theorem rm_cdr1 {l : Launch} {Z : State} {a0 : Array Value} {zc : Int32} {fm : Value} (G : Gl Z a0 zc fm) (h : Heap) (x : Addr) (C : Fld Z h x ST "coder" "B" (.int 1)) :
    Met l Z consts_1 (⟨"java/lang/String", "coder", "()B"⟩ : MethodName) jdk_42_method_152_code 1 (some .byte) ({ frames := 0, cells := 0, slots := 0, locals := 0 } : Room) #[.ref x] h [] [] (fun v h' => v = some (.int 1) ∧ h = h') := by
  have G0 := G
  obtain ⟨hw, hEL, SC, hz, SF, hfm, SA, SH, SL⟩ := G
  have hw1 : ∀ d ∈ StrChars.Road.words, d.before a0 Z = true := fun d q => hw d (sub1 d q)
  have hwA : ∀ d ∈ Bundle.stringAtoms, d.before a0 Z = true := fun d q => hw d (subA d q)
  refine Met.of (plainFor_of_name pn_1) ?_
  intro p e s m below meth c T hnm hret hlk hby hml hs w
  have hZ0 := w.old
  refine Run.cast (ef_cdr1 m x) ?_
  refine w_getS w (hw _ (List.mem_of_getElem? (i := 19) rfl)) Via.refl (SC.ext w.old) (hb hby dcdr1_0) (pc' := 3) rfl fun T w => ?_
  refine s_if_eq w (hb hby dcdr1_3) (by decide) (pc1 := 6) rfl (pc2 := 13) rfl (fun ct1 => ?_) (fun ct1 => ?_)
  · -- ¬ (zc = 0)
    refine s_aload_n w (hb hby dcdr1_6) rfl rfl (pc' := 7) rfl ?_
    refine w_getF w (hw _ (List.mem_of_getElem? (i := 31) rfl)) Via.refl C (hb hby dcdr1_7) (pc' := 10) rfl fun T w => ?_
    refine s_goto w (hb hby dcdr1_10) (by decide) (pc' := 14) rfl ?_
    exact w_ireturn w hEL hs hlk hret rfl (Or.inr (Or.inr (Or.inl rfl))) (hb hby dcdr1_14) (by decide) (by decide) ⟨rfl, rfl⟩
  · -- zc = 0
    refine s_iconst w (hb hby dcdr1_13) (v := 1) rfl (pc' := 14) rfl ?_
    exact absurd ct1 hz
theorem dul_0 : decode jdk_52_method_6_code 0 = .ok (.aload_n 0, 1) := by decide +kernel
theorem dul_1 : decode jdk_52_method_6_code 1 = .ok (.arraylength, 1) := by decide +kernel
theorem dul_2 : decode jdk_52_method_6_code 2 = .ok (.iconst 1, 1) := by decide +kernel
theorem dul_3 : decode jdk_52_method_6_code 3 = .ok (.ishr, 1) := by decide +kernel
theorem dul_4 : decode jdk_52_method_6_code 4 = .ok (.ireturn, 1) := by decide +kernel
theorem ef_ul (m : MethodId) (t : Addr) : entryFrame m #[.ref t] 1 = mkF m 0 #[.val (.ref t)] [] := by first | (simp [entryFrame, mkF, argsToLocals, Value.category]; done) | rfl
set_option maxRecDepth 65536 in
set_option maxHeartbeats 40000000 in
theorem rm_ul {l : Launch} {Z : State} {a0 : Array Value} {zc : Int32} {fm : Value} (G : Gl Z a0 zc fm) (h : Heap) (t : Addr) (n : Nat) (kt : ClassId) (vs : List Value) (A : Arv Z h t kt .byte (Int32.ofNat (2 * n)) vs (.int 0)) (hn : n ≤ 32) :
    Met l Z consts_1 (⟨"java/lang/StringUTF16", "length", "([B)I"⟩ : MethodName) jdk_52_method_6_code 1 (some .int) ({ frames := 0, cells := 0, slots := 0, locals := 0 } : Room) #[.ref t] h [] [] (fun v h' => v = some (.int (Int32.ofNat n)) ∧ h = h') := by
  have G0 := G
  obtain ⟨hw, hEL, SC, hz, SF, hfm, SA, SH, SL⟩ := G
  have hw1 : ∀ d ∈ StrChars.Road.words, d.before a0 Z = true := fun d q => hw d (sub1 d q)
  have hwA : ∀ d ∈ Bundle.stringAtoms, d.before a0 Z = true := fun d q => hw d (subA d q)
  refine Met.of (plainFor_of_name pn_0) ?_
  intro p e s m below meth c T hnm hret hlk hby hml hs w
  have hZ0 := w.old
  refine Run.cast (ef_ul m t) ?_
  refine s_aload_n w (hb hby dul_0) rfl rfl (pc' := 1) rfl ?_
  refine w_len w A (hb hby dul_1) (pc' := 2) rfl ?_
  refine s_iconst w (hb hby dul_2) (v := 1) rfl (pc' := 3) rfl ?_
  refine s_ishr w (hb hby dul_3) (pc' := 4) rfl ?_
  rw [ofN_shr hn]
  exact w_ireturn w hEL hs hlk hret rfl (Or.inl rfl) (hb hby dul_4) (by decide) (by decide) ⟨rfl, rfl⟩
theorem dcfs0_0 : decode jdk_41_method_13_code 0 = .ok (.iload_n 2, 1) := by decide +kernel
theorem dcfs0_1 : decode jdk_41_method_13_code 1 = .ok (.iload_n 0, 1) := by decide +kernel
theorem dcfs0_2 : decode jdk_41_method_13_code 2 = .ok (.ior, 1) := by decide +kernel
theorem dcfs0_3 : decode jdk_41_method_13_code 3 = .ok (.iload_n 1, 1) := by decide +kernel
theorem dcfs0_4 : decode jdk_41_method_13_code 4 = .ok (.ior, 1) := by decide +kernel
theorem dcfs0_5 : decode jdk_41_method_13_code 5 = .ok (.ifCond .lt 10, 3) := by decide +kernel
theorem dcfs0_8 : decode jdk_41_method_13_code 8 = .ok (.iload_n 1, 1) := by decide +kernel
theorem dcfs0_9 : decode jdk_41_method_13_code 9 = .ok (.iload_n 2, 1) := by decide +kernel
theorem dcfs0_10 : decode jdk_41_method_13_code 10 = .ok (.iload_n 0, 1) := by decide +kernel
theorem dcfs0_11 : decode jdk_41_method_13_code 11 = .ok (.isub, 1) := by decide +kernel
theorem dcfs0_12 : decode jdk_41_method_13_code 12 = .ok (.if_icmp .le 11, 3) := by decide +kernel
theorem dcfs0_15 : decode jdk_41_method_13_code 15 = .ok (.aload_n 3, 1) := by decide +kernel
theorem dcfs0_16 : decode jdk_41_method_13_code 16 = .ok (.iload_n 0, 1) := by decide +kernel
theorem dcfs0_17 : decode jdk_41_method_13_code 17 = .ok (.iload_n 1, 1) := by decide +kernel
theorem dcfs0_18 : decode jdk_41_method_13_code 18 = .ok (.iload_n 2, 1) := by decide +kernel
theorem dcfs0_19 : decode jdk_41_method_13_code 19 = .ok (.invokestatic 103, 3) := by decide +kernel
theorem dcfs0_22 : decode jdk_41_method_13_code 22 = .ok (.athrow, 1) := by decide +kernel
theorem dcfs0_23 : decode jdk_41_method_13_code 23 = .ok (.iload_n 0, 1) := by decide +kernel
theorem dcfs0_24 : decode jdk_41_method_13_code 24 = .ok (.ireturn, 1) := by decide +kernel
theorem pn_2 : plainName "jdk/internal/util/Preconditions" = true := by first | (simp [plainName, overriddenIn]; done) | decide +kernel
theorem ef_cfs0 (m : MethodId) (O : Int32) (N : Int32) (L : Int32) : entryFrame m #[.int O, .int N, .int L, .null] 4 = mkF m 0 #[.val (.int O), .val (.int N), .val (.int L), .val (.null)] [] := by first | (simp [entryFrame, mkF, argsToLocals, Value.category]; done) | rfl
set_option maxRecDepth 65536 in
set_option maxHeartbeats 40000000 in
theorem rm_cfs0 {l : Launch} {Z : State} {a0 : Array Value} {zc : Int32} {fm : Value} (G : Gl Z a0 zc fm) (h : Heap) (O : Int32) (N : Int32) (L : Int32) (o n l0 : Nat) (hO : O = Int32.ofNat o) (hN : N = Int32.ofNat n) (hL : L = Int32.ofNat l0) (hf : o + n ≤ l0) (hl : l0 ≤ 2000) :
    Met l Z consts_1 (⟨"jdk/internal/util/Preconditions", "checkFromIndexSize", "(IIILjava/util/function/BiFunction;)I"⟩ : MethodName) jdk_41_method_13_code 4 (some .int) ({ frames := 0, cells := 0, slots := 0, locals := 0 } : Room) #[.int O, .int N, .int L, .null] h [] [] (fun v h' => v = some (.int O) ∧ h = h') := by
  have G0 := G
  obtain ⟨hw, hEL, SC, hz, SF, hfm, SA, SH, SL⟩ := G
  have hw1 : ∀ d ∈ StrChars.Road.words, d.before a0 Z = true := fun d q => hw d (sub1 d q)
  have hwA : ∀ d ∈ Bundle.stringAtoms, d.before a0 Z = true := fun d q => hw d (subA d q)
  refine Met.of (plainFor_of_name pn_2) ?_
  intro p e s m below meth c T hnm hret hlk hby hml hs w
  have hZ0 := w.old
  refine Run.cast (ef_cfs0 m O N L) ?_
  refine s_iload_n w (hb hby dcfs0_0) rfl (pc' := 1) rfl ?_
  refine s_iload_n w (hb hby dcfs0_1) rfl (pc' := 2) rfl ?_
  refine s_ior w (hb hby dcfs0_2) (pc' := 3) rfl ?_
  refine s_iload_n w (hb hby dcfs0_3) rfl (pc' := 4) rfl ?_
  refine s_ior w (hb hby dcfs0_4) (pc' := 5) rfl ?_
  refine s_if_lt w (hb hby dcfs0_5) (by decide) (pc1 := 8) rfl (pc2 := 15) rfl (fun ct1 => ?_) (fun ct1 => ?_)
  · skip
    refine s_iload_n w (hb hby dcfs0_8) rfl (pc' := 9) rfl ?_
    refine s_iload_n w (hb hby dcfs0_9) rfl (pc' := 10) rfl ?_
    refine s_iload_n w (hb hby dcfs0_10) rfl (pc' := 11) rfl ?_
    refine s_isub w (hb hby dcfs0_11) (pc' := 12) rfl ?_
    refine s_icmp_le w (hb hby dcfs0_12) (by decide) (pc1 := 15) rfl (pc2 := 23) rfl (fun ct2 => ?_) (fun ct2 => ?_)
    · exact absurd ct2 (by rw [hO, hN, hL]; exact sub_fit hf (by omega))
    · skip
      refine s_iload_n w (hb hby dcfs0_23) rfl (pc' := 24) rfl ?_
      exact w_ireturn w hEL hs hlk hret rfl (Or.inl rfl) (hb hby dcfs0_24) (by decide) (by decide) ⟨rfl, rfl⟩
  · exact absurd ct1 (by rw [hO, hN, hL]; exact or3nn (by omega) (by omega) (by omega))
theorem dcfs1_0 : decode jdk_41_method_13_code 0 = .ok (.iload_n 2, 1) := by decide +kernel
theorem dcfs1_1 : decode jdk_41_method_13_code 1 = .ok (.iload_n 0, 1) := by decide +kernel
theorem dcfs1_2 : decode jdk_41_method_13_code 2 = .ok (.ior, 1) := by decide +kernel
theorem dcfs1_3 : decode jdk_41_method_13_code 3 = .ok (.iload_n 1, 1) := by decide +kernel
theorem dcfs1_4 : decode jdk_41_method_13_code 4 = .ok (.ior, 1) := by decide +kernel
theorem dcfs1_5 : decode jdk_41_method_13_code 5 = .ok (.ifCond .lt 10, 3) := by decide +kernel
theorem dcfs1_8 : decode jdk_41_method_13_code 8 = .ok (.iload_n 1, 1) := by decide +kernel
theorem dcfs1_9 : decode jdk_41_method_13_code 9 = .ok (.iload_n 2, 1) := by decide +kernel
theorem dcfs1_10 : decode jdk_41_method_13_code 10 = .ok (.iload_n 0, 1) := by decide +kernel
theorem dcfs1_11 : decode jdk_41_method_13_code 11 = .ok (.isub, 1) := by decide +kernel
theorem dcfs1_12 : decode jdk_41_method_13_code 12 = .ok (.if_icmp .le 11, 3) := by decide +kernel
theorem dcfs1_15 : decode jdk_41_method_13_code 15 = .ok (.aload_n 3, 1) := by decide +kernel
theorem dcfs1_16 : decode jdk_41_method_13_code 16 = .ok (.iload_n 0, 1) := by decide +kernel
theorem dcfs1_17 : decode jdk_41_method_13_code 17 = .ok (.iload_n 1, 1) := by decide +kernel
theorem dcfs1_18 : decode jdk_41_method_13_code 18 = .ok (.iload_n 2, 1) := by decide +kernel
theorem dcfs1_19 : decode jdk_41_method_13_code 19 = .ok (.invokestatic 103, 3) := by decide +kernel
theorem dcfs1_22 : decode jdk_41_method_13_code 22 = .ok (.athrow, 1) := by decide +kernel
theorem dcfs1_23 : decode jdk_41_method_13_code 23 = .ok (.iload_n 0, 1) := by decide +kernel
theorem dcfs1_24 : decode jdk_41_method_13_code 24 = .ok (.ireturn, 1) := by decide +kernel
theorem ef_cfs1 (m : MethodId) (O : Int32) (N : Int32) (L : Int32) (ra : Addr) : entryFrame m #[.int O, .int N, .int L, .ref ra] 4 = mkF m 0 #[.val (.int O), .val (.int N), .val (.int L), .val (.ref ra)] [] := by first | (simp [entryFrame, mkF, argsToLocals, Value.category]; done) | rfl
set_option maxRecDepth 65536 in
set_option maxHeartbeats 40000000 in
theorem rm_cfs1 {l : Launch} {Z : State} {a0 : Array Value} {zc : Int32} {fm : Value} (G : Gl Z a0 zc fm) (h : Heap) (O : Int32) (N : Int32) (L : Int32) (ra : Addr) (o n l0 : Nat) (hO : O = Int32.ofNat o) (hN : N = Int32.ofNat n) (hL : L = Int32.ofNat l0) (hf : o + n ≤ l0) (hl : l0 ≤ 2000) :
    Met l Z consts_1 (⟨"jdk/internal/util/Preconditions", "checkFromIndexSize", "(IIILjava/util/function/BiFunction;)I"⟩ : MethodName) jdk_41_method_13_code 4 (some .int) ({ frames := 0, cells := 0, slots := 0, locals := 0 } : Room) #[.int O, .int N, .int L, .ref ra] h [] [] (fun v h' => v = some (.int O) ∧ h = h') := by
  have G0 := G
  obtain ⟨hw, hEL, SC, hz, SF, hfm, SA, SH, SL⟩ := G
  have hw1 : ∀ d ∈ StrChars.Road.words, d.before a0 Z = true := fun d q => hw d (sub1 d q)
  have hwA : ∀ d ∈ Bundle.stringAtoms, d.before a0 Z = true := fun d q => hw d (subA d q)
  refine Met.of (plainFor_of_name pn_2) ?_
  intro p e s m below meth c T hnm hret hlk hby hml hs w
  have hZ0 := w.old
  refine Run.cast (ef_cfs1 m O N L ra) ?_
  refine s_iload_n w (hb hby dcfs1_0) rfl (pc' := 1) rfl ?_
  refine s_iload_n w (hb hby dcfs1_1) rfl (pc' := 2) rfl ?_
  refine s_ior w (hb hby dcfs1_2) (pc' := 3) rfl ?_
  refine s_iload_n w (hb hby dcfs1_3) rfl (pc' := 4) rfl ?_
  refine s_ior w (hb hby dcfs1_4) (pc' := 5) rfl ?_
  refine s_if_lt w (hb hby dcfs1_5) (by decide) (pc1 := 8) rfl (pc2 := 15) rfl (fun ct1 => ?_) (fun ct1 => ?_)
  · skip
    refine s_iload_n w (hb hby dcfs1_8) rfl (pc' := 9) rfl ?_
    refine s_iload_n w (hb hby dcfs1_9) rfl (pc' := 10) rfl ?_
    refine s_iload_n w (hb hby dcfs1_10) rfl (pc' := 11) rfl ?_
    refine s_isub w (hb hby dcfs1_11) (pc' := 12) rfl ?_
    refine s_icmp_le w (hb hby dcfs1_12) (by decide) (pc1 := 15) rfl (pc2 := 23) rfl (fun ct2 => ?_) (fun ct2 => ?_)
    · exact absurd ct2 (by rw [hO, hN, hL]; exact sub_fit hf (by omega))
    · skip
      refine s_iload_n w (hb hby dcfs1_23) rfl (pc' := 24) rfl ?_
      exact w_ireturn w hEL hs hlk hret rfl (Or.inl rfl) (hb hby dcfs1_24) (by decide) (by decide) ⟨rfl, rfl⟩
  · exact absurd ct1 (by rw [hO, hN, hL]; exact or3nn (by omega) (by omega) (by omega))
theorem dsbc_0 : decode jdk_42_method_157_code 0 = .ok (.iload_n 0, 1) := by decide +kernel
theorem dsbc_1 : decode jdk_42_method_157_code 1 = .ok (.iload_n 1, 1) := by decide +kernel
theorem dsbc_2 : decode jdk_42_method_157_code 2 = .ok (.iload_n 2, 1) := by decide +kernel
theorem dsbc_3 : decode jdk_42_method_157_code 3 = .ok (.getstatic 1053, 3) := by decide +kernel
theorem dsbc_6 : decode jdk_42_method_157_code 6 = .ok (.invokestatic 1065, 3) := by decide +kernel
theorem dsbc_9 : decode jdk_42_method_157_code 9 = .ok (.ireturn, 1) := by decide +kernel
theorem ef_sbc (m : MethodId) (O : Int32) (N : Int32) (L : Int32) : entryFrame m #[.int O, .int N, .int L] 3 = mkF m 0 #[.val (.int O), .val (.int N), .val (.int L)] [] := by first | (simp [entryFrame, mkF, argsToLocals, Value.category]; done) | rfl
set_option maxRecDepth 65536 in
set_option maxHeartbeats 40000000 in
theorem rm_sbc {l : Launch} {Z : State} {a0 : Array Value} {zc : Int32} {fm : Value} (G : Gl Z a0 zc fm) (h : Heap) (O : Int32) (N : Int32) (L : Int32) (o n l0 : Nat) (hO : O = Int32.ofNat o) (hN : N = Int32.ofNat n) (hL : L = Int32.ofNat l0) (hf : o + n ≤ l0) (hl : l0 ≤ 2000) :
    Met l Z consts_1 (⟨"java/lang/String", "checkBoundsOffCount", "(III)I"⟩ : MethodName) jdk_42_method_157_code 3 (some .int) ({ frames := 1, cells := 0, slots := 0, locals := 15 } : Room) #[.int O, .int N, .int L] h [] [] (fun v h' => v = some (.int O) ∧ h = h') := by
  have G0 := G
  obtain ⟨hw, hEL, SC, hz, SF, hfm, SA, SH, SL⟩ := G
  have hw1 : ∀ d ∈ StrChars.Road.words, d.before a0 Z = true := fun d q => hw d (sub1 d q)
  have hwA : ∀ d ∈ Bundle.stringAtoms, d.before a0 Z = true := fun d q => hw d (subA d q)
  refine Met.of (plainFor_of_name pn_1) ?_
  intro p e s m below meth c T hnm hret hlk hby hml hs w
  have hZ0 := w.old
  refine Run.cast (ef_sbc m O N L) ?_
  rcases ref_cases hfm with rfl | ⟨ra, rfl⟩
  · skip
    refine s_iload_n w (hb hby dsbc_0) rfl (pc' := 1) rfl ?_
    refine s_iload_n w (hb hby dsbc_1) rfl (pc' := 2) rfl ?_
    refine s_iload_n w (hb hby dsbc_2) rfl (pc' := 3) rfl ?_
    refine w_getS w (hw _ (List.mem_of_getElem? (i := 193) rfl)) Via.refl (SF.ext w.old) (hb hby dsbc_3) (pc' := 6) rfl fun T w => ?_
    refine w_staticN w hEL (y := (⟨"jdk/internal/util/Preconditions", "checkFromIndexSize", "(IIILjava/util/function/BiFunction;)I"⟩ : MethodName)) (hw _ (List.mem_of_getElem? (i := 245) rfl)) (hw _ (List.mem_of_getElem? (i := 246) rfl)) (hw _ (List.mem_of_getElem? (i := 194) rfl)) (hw _ (List.mem_of_getElem? (i := 247) rfl)) (by decide) (rm_cfs0 G0 h O N L o n l0 hO hN hL hf hl) all0 all0 (argsL := [.int O, .int N, .int L, .null]) (rest := []) (lenOf (by decide +kernel : parseMethodDescriptor "(IIILjava/util/function/BiFunction;)I" = some ⟨[.int, .int, .int, (.object "java/util/function/BiFunction")], (some .int)⟩) rfl) rfl rfl (hb hby dsbc_6) (by rw [hml]; rfl) (W := 0) (Nat.le_of_eq rfl) (by decide) (by decide) (by decide) (by decide) (pc' := 9) rfl fun u1 N2 T h3 w K4 P5 => ?_
    obtain ⟨rfl, P6⟩ := P5
    obtain ⟨rfl, rfl⟩ := P6
    show Run p e below _ T (mkF m 9 #[.val (.int O), .val (.int N), .val (.int L)] [.int O])
    exact w_ireturn w hEL hs hlk hret rfl (Or.inl rfl) (hb hby dsbc_9) (by decide) (by decide) ⟨rfl, rfl⟩
  · skip
    refine s_iload_n w (hb hby dsbc_0) rfl (pc' := 1) rfl ?_
    refine s_iload_n w (hb hby dsbc_1) rfl (pc' := 2) rfl ?_
    refine s_iload_n w (hb hby dsbc_2) rfl (pc' := 3) rfl ?_
    refine w_getS w (hw _ (List.mem_of_getElem? (i := 193) rfl)) Via.refl (SF.ext w.old) (hb hby dsbc_3) (pc' := 6) rfl fun T w => ?_
    refine w_staticN w hEL (y := (⟨"jdk/internal/util/Preconditions", "checkFromIndexSize", "(IIILjava/util/function/BiFunction;)I"⟩ : MethodName)) (hw _ (List.mem_of_getElem? (i := 245) rfl)) (hw _ (List.mem_of_getElem? (i := 246) rfl)) (hw _ (List.mem_of_getElem? (i := 194) rfl)) (hw _ (List.mem_of_getElem? (i := 247) rfl)) (by decide) (rm_cfs1 G0 h O N L ra o n l0 hO hN hL hf hl) all0 all0 (argsL := [.int O, .int N, .int L, .ref ra]) (rest := []) (lenOf (by decide +kernel : parseMethodDescriptor "(IIILjava/util/function/BiFunction;)I" = some ⟨[.int, .int, .int, (.object "java/util/function/BiFunction")], (some .int)⟩) rfl) rfl rfl (hb hby dsbc_6) (by rw [hml]; rfl) (W := 0) (Nat.le_of_eq rfl) (by decide) (by decide) (by decide) (by decide) (pc' := 9) rfl fun u7 N8 T h9 w K10 P11 => ?_
    obtain ⟨rfl, P12⟩ := P11
    obtain ⟨rfl, rfl⟩ := P12
    show Run p e below _ T (mkF m 9 #[.val (.int O), .val (.int N), .val (.int L)] [.int O])
    exact w_ireturn w hEL hs hlk hret rfl (Or.inl rfl) (hb hby dsbc_9) (by decide) (by decide) ⟨rfl, rfl⟩
theorem dubc_0 : decode jdk_52_method_94_code 0 = .ok (.iload_n 0, 1) := by decide +kernel
theorem dubc_1 : decode jdk_52_method_94_code 1 = .ok (.iload_n 1, 1) := by decide +kernel
theorem dubc_2 : decode jdk_52_method_94_code 2 = .ok (.aload_n 2, 1) := by decide +kernel
theorem dubc_3 : decode jdk_52_method_94_code 3 = .ok (.invokestatic 48, 3) := by decide +kernel
theorem dubc_6 : decode jdk_52_method_94_code 6 = .ok (.invokestatic 419, 3) := by decide +kernel
theorem dubc_9 : decode jdk_52_method_94_code 9 = .ok (.pop, 1) := by decide +kernel
theorem dubc_10 : decode jdk_52_method_94_code 10 = .ok (.return_, 1) := by decide +kernel
theorem ef_ubc (m : MethodId) (O : Int32) (N : Int32) (t : Addr) : entryFrame m #[.int O, .int N, .ref t] 3 = mkF m 0 #[.val (.int O), .val (.int N), .val (.ref t)] [] := by first | (simp [entryFrame, mkF, argsToLocals, Value.category]; done) | rfl
set_option maxRecDepth 65536 in
set_option maxHeartbeats 40000000 in
theorem rm_ubc {l : Launch} {Z : State} {a0 : Array Value} {zc : Int32} {fm : Value} (G : Gl Z a0 zc fm) (h : Heap) (O : Int32) (N : Int32) (t : Addr) (o n l0 : Nat) (kt : ClassId) (vs : List Value) (A : Arv Z h t kt .byte (Int32.ofNat (2 * l0)) vs (.int 0)) (hO : O = Int32.ofNat o) (hN : N = Int32.ofNat n) (hf : o + n ≤ l0) (hl : l0 ≤ 32) :
    Met l Z consts_1 (⟨"java/lang/StringUTF16", "checkBoundsOffCount", "(II[B)V"⟩ : MethodName) jdk_52_method_94_code 3 none ({ frames := 2, cells := 0, slots := 0, locals := 29 } : Room) #[.int O, .int N, .ref t] h [] [] (fun v h' => v = none ∧ h = h') := by
  have G0 := G
  obtain ⟨hw, hEL, SC, hz, SF, hfm, SA, SH, SL⟩ := G
  have hw1 : ∀ d ∈ StrChars.Road.words, d.before a0 Z = true := fun d q => hw d (sub1 d q)
  have hwA : ∀ d ∈ Bundle.stringAtoms, d.before a0 Z = true := fun d q => hw d (subA d q)
  refine Met.of (plainFor_of_name pn_0) ?_
  intro p e s m below meth c T hnm hret hlk hby hml hs w
  have hZ0 := w.old
  refine Run.cast (ef_ubc m O N t) ?_
  refine s_iload_n w (hb hby dubc_0) rfl (pc' := 1) rfl ?_
  refine s_iload_n w (hb hby dubc_1) rfl (pc' := 2) rfl ?_
  refine s_aload_n w (hb hby dubc_2) rfl rfl (pc' := 3) rfl ?_
  refine w_staticN w hEL (y := (⟨"java/lang/StringUTF16", "length", "([B)I"⟩ : MethodName)) (hw _ (List.mem_of_getElem? (i := 239) rfl)) (hw _ (List.mem_of_getElem? (i := 240) rfl)) (hw _ (List.mem_of_getElem? (i := 22) rfl)) (hw _ (List.mem_of_getElem? (i := 241) rfl)) (by decide) (rm_ul G0 h t l0 kt vs A (by omega)) all0 all0 (argsL := [.ref t]) (rest := [.int N, .int O]) (lenOf (by decide +kernel : parseMethodDescriptor "([B)I" = some ⟨[(.array .byte)], (some .int)⟩) rfl) rfl rfl (hb hby dubc_3) (by rw [hml]; rfl) (W := 2) (Nat.le_of_eq rfl) (by decide) (by decide) (by decide) (by decide) (pc' := 6) rfl fun u1 N2 T h3 w K4 P5 => ?_
  obtain ⟨rfl, P6⟩ := P5
  obtain ⟨rfl, rfl⟩ := P6
  show Run p e below _ T (mkF m 6 #[.val (.int O), .val (.int N), .val (.ref t)] [.int (Int32.ofNat l0), .int N, .int O])
  refine w_staticN w hEL (y := (⟨"java/lang/String", "checkBoundsOffCount", "(III)I"⟩ : MethodName)) (hw _ (List.mem_of_getElem? (i := 242) rfl)) (hw _ (List.mem_of_getElem? (i := 243) rfl)) (hw _ (List.mem_of_getElem? (i := 7) rfl)) (hw _ (List.mem_of_getElem? (i := 244) rfl)) (by decide) (rm_sbc G0 h O N _ o n l0 hO hN rfl hf (by omega)) all0 all0 (argsL := [.int O, .int N, .int (Int32.ofNat l0)]) (rest := []) (lenOf (by decide +kernel : parseMethodDescriptor "(III)I" = some ⟨[.int, .int, .int], (some .int)⟩) rfl) rfl rfl (hb hby dubc_6) (by rw [hml]; rfl) (W := 0) (Nat.le_of_eq rfl) (by decide) (by decide) (by decide) (by decide) (pc' := 9) rfl fun u7 N8 T h9 w K10 P11 => ?_
  obtain ⟨rfl, P12⟩ := P11
  obtain ⟨rfl, rfl⟩ := P12
  show Run p e below _ T (mkF m 9 #[.val (.int O), .val (.int N), .val (.ref t)] [.int O])
  refine s_pop w (hb hby dubc_9) rfl (pc' := 10) rfl ?_
  exact w_return w hEL hs hlk hret (hb hby dubc_10) (by decide) (by decide) ⟨rfl, rfl⟩
theorem duif_0 : decode jdk_52_method_86_code 0 = .ok (.iload_n 3, 1) := by decide +kernel
theorem duif_1 : decode jdk_52_method_86_code 1 = .ok (.iload 4, 2) := by decide +kernel
theorem duif_3 : decode jdk_52_method_86_code 3 = .ok (.aload_n 2, 1) := by decide +kernel
theorem duif_4 : decode jdk_52_method_86_code 4 = .ok (.invokestatic 173, 3) := by decide +kernel
theorem duif_7 : decode jdk_52_method_86_code 7 = .ok (.iconst 0, 1) := by decide +kernel
theorem duif_8 : decode jdk_52_method_86_code 8 = .ok (.istore 5, 2) := by decide +kernel
theorem duif_10 : decode jdk_52_method_86_code 10 = .ok (.iload 5, 2) := by decide +kernel
theorem duif_12 : decode jdk_52_method_86_code 12 = .ok (.iload 4, 2) := by decide +kernel
theorem duif_14 : decode jdk_52_method_86_code 14 = .ok (.if_icmp .ge 27, 3) := by decide +kernel
theorem duif_17 : decode jdk_52_method_86_code 17 = .ok (.aload_n 2, 1) := by decide +kernel
theorem duif_18 : decode jdk_52_method_86_code 18 = .ok (.iload_n 3, 1) := by decide +kernel
theorem duif_19 : decode jdk_52_method_86_code 19 = .ok (.iinc 3 1, 3) := by decide +kernel
theorem duif_22 : decode jdk_52_method_86_code 22 = .ok (.aload_n 0, 1) := by decide +kernel
theorem duif_23 : decode jdk_52_method_86_code 23 = .ok (.iload_n 1, 1) := by decide +kernel
theorem duif_24 : decode jdk_52_method_86_code 24 = .ok (.iinc 1 1, 3) := by decide +kernel
theorem duif_27 : decode jdk_52_method_86_code 27 = .ok (.baload, 1) := by decide +kernel
theorem duif_28 : decode jdk_52_method_86_code 28 = .ok (.sipush 255, 3) := by decide +kernel
theorem duif_31 : decode jdk_52_method_86_code 31 = .ok (.iand, 1) := by decide +kernel
theorem duif_32 : decode jdk_52_method_86_code 32 = .ok (.invokestatic 111, 3) := by decide +kernel
theorem duif_35 : decode jdk_52_method_86_code 35 = .ok (.iinc 5 1, 3) := by decide +kernel
theorem duif_38 : decode jdk_52_method_86_code 38 = .ok (.goto (-28), 3) := by decide +kernel
theorem duif_41 : decode jdk_52_method_86_code 41 = .ok (.return_, 1) := by decide +kernel
theorem ef_uif (m : MethodId) (s0 : Addr) (d : Addr) (O : Int32) (N : Int32) : entryFrame m #[.ref s0, .int 0, .ref d, .int O, .int N] 6 = mkF m 0 #[.val (.ref s0), .val (.int 0), .val (.ref d), .val (.int O), .val (.int N), .unset] [] := by first | (simp [entryFrame, mkF, argsToLocals, Value.category]; done) | rfl
set_option maxRecDepth 65536 in
set_option maxHeartbeats 40000000 in
theorem rm_uif {l : Launch} {Z : State} {a0 : Array Value} {zc : Int32} {fm : Value} (G : Gl Z a0 zc fm) (h : Heap) (s0 : Addr) (d : Addr) (O : Int32) (N : Int32) (o : Nat) (ks kd : ClassId) (Ns : Int32) (vs vd : List Value) (ds : List Int32) (hO : O = Int32.ofNat o) (hN : N = Int32.ofNat ds.length) (As : Arv Z h s0 ks .byte Ns vs (.int 0)) (hNs : ds.length ≤ Ns.toNatClampNeg) (hsrc : ∀ j, j < ds.length → vs.getD j (.int 0) = .int (lo8 (ds.getD j 0))) (hlat : ∀ c ∈ ds, Lat c) (D : Arv Z h d kd .byte (Int32.ofNat (2 * 16)) vd (.int 0)) (hvd : vd.length = 2 * 16) (hf : o + ds.length ≤ 16) (hsd : s0 ≠ d) :
    Met l Z consts_1 (⟨"java/lang/StringUTF16", "inflate", "([BI[BII)V"⟩ : MethodName) jdk_52_method_86_code 6 none ({ frames := 3, cells := 0, slots := 0, locals := 43 } : Room) #[.ref s0, .int 0, .ref d, .int O, .int N] h [d] [d] (fun v h' => v = none ∧ Arv Z h' d kd .byte (Int32.ofNat (2 * 16)) (vd.take (2 * o) ++ wideBytes ds ++ vd.drop (2 * (o + ds.length))) (.int 0)) := by
  have G0 := G
  obtain ⟨hw, hEL, SC, hz, SF, hfm, SA, SH, SL⟩ := G
  have hw1 : ∀ d ∈ StrChars.Road.words, d.before a0 Z = true := fun d q => hw d (sub1 d q)
  have hwA : ∀ d ∈ Bundle.stringAtoms, d.before a0 Z = true := fun d q => hw d (subA d q)
  refine Met.of (plainFor_of_name pn_0) ?_
  intro p e s m below meth c T hnm hret hlk hby hml hs w
  have hZ0 := w.old
  refine Run.cast (ef_uif m s0 d O N) ?_
  refine s_iload_n w (hb hby duif_0) rfl (pc' := 1) rfl ?_
  refine s_iload w (hb hby duif_1) rfl (pc' := 3) rfl ?_
  refine s_aload_n w (hb hby duif_3) rfl rfl (pc' := 4) rfl ?_
  refine w_staticN w hEL (y := (⟨"java/lang/StringUTF16", "checkBoundsOffCount", "(II[B)V"⟩ : MethodName)) (hw _ (List.mem_of_getElem? (i := 236) rfl)) (hw _ (List.mem_of_getElem? (i := 237) rfl)) (hw _ (List.mem_of_getElem? (i := 22) rfl)) (hw _ (List.mem_of_getElem? (i := 238) rfl)) (by decide) (rm_ubc G0 h O N d o ds.length 16 kd vd D hO hN hf (by decide)) all0 all0 (argsL := [.int O, .int N, .ref d]) (rest := []) (lenOf (by decide +kernel : parseMethodDescriptor "(II[B)V" = some ⟨[.int, .int, (.array .byte)], none⟩) rfl) rfl rfl (hb hby duif_4) (by rw [hml]; rfl) (W := 0) (Nat.le_of_eq rfl) (by decide) (by decide) (by decide) (by decide) (pc' := 7) rfl fun u1 N2 T h3 w K4 P5 => ?_
  obtain ⟨rfl, P6⟩ := P5
  obtain ⟨rfl, rfl⟩ := P6
  show Run p e below _ T (mkF m 7 #[.val (.ref s0), .val (.int 0), .val (.ref d), .val (.int O), .val (.int N), .unset] [])
  refine s_iconst w (hb hby duif_7) (v := 0) rfl (pc' := 8) rfl ?_
  refine s_istore w #[.val (.ref s0), .val (.int 0), .val (.ref d), .val (.int O), .val (.int N), .val (.int 0)] (hb hby duif_8) rfl (pc' := 10) rfl ?_
  rw [hO]
  suffices H : ∀ k j T g, j + k = ds.length → Wk p l e _ s m _ below meth c Z consts_1 _ h [d] T g 0 0 [d] → Arv Z g s0 ks .byte Ns vs (.int 0) → Arv Z g d kd .byte (Int32.ofNat (2 * 16)) (vd.take (2 * o) ++ wideBytes (ds.take j) ++ vd.drop (2 * (o + j))) (.int 0) → Run p e below (Qm Z consts_1 s h [d] _ _) T (mkF m 10 #[.val (.ref s0), .val (.int (Int32.ofNat j)), .val (.ref d), .val (.int (Int32.ofNat (o + j))), .val (.int N), .val (.int (Int32.ofNat j))] []) from H ds.length 0 T h (Nat.zero_add _) w As (by simpa [wideBytes] using D)
  intro k
  induction k with
  | zero =>
    intro j T g hj w As D
    obtain rfl : j = ds.length := hj
    refine s_iload w (hb hby duif_10) rfl (pc' := 12) rfl ?_
    refine s_iload w (hb hby duif_12) rfl (pc' := 14) rfl ?_
    refine s_icmp_ge w (hb hby duif_14) (by decide) (pc1 := 17) rfl (pc2 := 41) rfl (fun ct7 => ?_) (fun ct7 => ?_)
    · exact absurd ct7 (by rw [hN]; exact Int32.lt_irrefl)
    · skip
      exact w_return w hEL hs hlk hret (hb hby duif_41) (by decide) (by decide) ⟨rfl, by simpa using D⟩
  | succ k ih =>
    intro j T g hj w As D
    have hjn : j < ds.length := by omega
    refine s_iload w (hb hby duif_10) rfl (pc' := 12) rfl ?_
    refine s_iload w (hb hby duif_12) rfl (pc' := 14) rfl ?_
    refine s_icmp_ge w (hb hby duif_14) (by decide) (pc1 := 17) rfl (pc2 := 41) rfl (fun ct8 => ?_) (fun ct8 => ?_)
    · skip
      refine s_aload_n w (hb hby duif_17) rfl rfl (pc' := 18) rfl ?_
      refine s_iload_n w (hb hby duif_18) rfl (pc' := 19) rfl ?_
      refine s_iinc w #[.val (.ref s0), .val (.int (Int32.ofNat j)), .val (.ref d), .val (.int ((Int32.ofNat (o + j)) + 1)), .val (.int N), .val (.int (Int32.ofNat j))] (hb hby duif_19) (v := 1) rfl rfl rfl (pc' := 22) rfl ?_
      refine s_aload_n w (hb hby duif_22) rfl rfl (pc' := 23) rfl ?_
      refine s_iload_n w (hb hby duif_23) rfl (pc' := 24) rfl ?_
      refine s_iinc w #[.val (.ref s0), .val (.int ((Int32.ofNat j) + 1)), .val (.ref d), .val (.int ((Int32.ofNat (o + j)) + 1)), .val (.int N), .val (.int (Int32.ofNat j))] (hb hby duif_24) (v := 1) rfl rfl rfl (pc' := 27) rfl ?_
      refine w_ldB w As (i := j) (ofNat_lt (by omega)) (ofNat_nat (by omega)) (by omega) (hsrc j hjn) (hb hby duif_27) (pc' := 28) rfl ?_
      refine s_sipush w (hb hby duif_28) (v := 255) rfl (pc' := 31) rfl ?_
      refine s_iand w (hb hby duif_31) (pc' := 32) rfl ?_
      rw [lo8_mask (hlat _ (getD_memC hjn)).1 (hlat _ (getD_memC hjn)).2]
      refine w_staticN w hEL (y := (⟨"java/lang/StringUTF16", "putChar", "([BII)V"⟩ : MethodName)) (hw _ (List.mem_of_getElem? (i := 208) rfl)) (hw _ (List.mem_of_getElem? (i := 209) rfl)) (hw _ (List.mem_of_getElem? (i := 22) rfl)) (hw _ (List.mem_of_getElem? (i := 210) rfl)) (by decide) (rm_pch G0 g d _ _ (o + j) 16 rfl kd _ _ rfl (by simp [wide_len]; omega) D (by omega) (by decide)) (allS (List.mem_of_getElem? (i := 0) rfl) all0) (allS (Or.inl (List.mem_of_getElem? (i := 0) rfl)) all0) (argsL := [.ref d, .int (Int32.ofNat (o + j)), .int (ds.getD j 0)]) (rest := []) (lenOf (by decide +kernel : parseMethodDescriptor "([BII)V" = some ⟨[(.array .byte), .int, .int], none⟩) rfl) rfl rfl (hb hby duif_32) (by rw [hml]; rfl) (W := 0) (Nat.le_of_eq rfl) (by decide) (by decide) (by decide) (by decide) (pc' := 35) rfl fun u9 N10 T h11 w K12 P13 => ?_
      obtain ⟨rfl, P14⟩ := P13
      obtain ⟨rfl, D1⟩ := P14
      have K1 := As.keep K12 (ninS hsd nin0)
      rw [inf_step hvd hjn hf] at D1
      show Run p e below _ T (mkF m 35 #[.val (.ref s0), .val (.int ((Int32.ofNat j) + 1)), .val (.ref d), .val (.int ((Int32.ofNat (o + j)) + 1)), .val (.int N), .val (.int (Int32.ofNat j))] [])
      refine s_iinc w #[.val (.ref s0), .val (.int ((Int32.ofNat j) + 1)), .val (.ref d), .val (.int ((Int32.ofNat (o + j)) + 1)), .val (.int N), .val (.int ((Int32.ofNat j) + 1))] (hb hby duif_35) (v := 1) rfl rfl rfl (pc' := 38) rfl ?_
      refine s_goto w (hb hby duif_38) (by decide) (pc' := 10) rfl ?_
      simp only [ofNat_succ]
      exact ih (j + 1) _ _ (by omega) w K1 D1
    · exact absurd (by rw [hN]; exact (ofNat_cmp (by omega) (by omega)).mpr hjn) ct8
theorem dlif_0 : decode jdk_43_method_50_code 0 = .ok (.aload_n 0, 1) := by decide +kernel
theorem dlif_1 : decode jdk_43_method_50_code 1 = .ok (.iload_n 1, 1) := by decide +kernel
theorem dlif_2 : decode jdk_43_method_50_code 2 = .ok (.aload_n 2, 1) := by decide +kernel
theorem dlif_3 : decode jdk_43_method_50_code 3 = .ok (.iload_n 3, 1) := by decide +kernel
theorem dlif_4 : decode jdk_43_method_50_code 4 = .ok (.iload 4, 2) := by decide +kernel
theorem dlif_6 : decode jdk_43_method_50_code 6 = .ok (.invokestatic 240, 3) := by decide +kernel
theorem dlif_9 : decode jdk_43_method_50_code 9 = .ok (.return_, 1) := by decide +kernel
theorem pn_3 : plainName "java/lang/StringLatin1" = true := by first | (simp [plainName, overriddenIn]; done) | decide +kernel
theorem ef_lif (m : MethodId) (s0 : Addr) (d : Addr) (O : Int32) (N : Int32) : entryFrame m #[.ref s0, .int 0, .ref d, .int O, .int N] 5 = mkF m 0 #[.val (.ref s0), .val (.int 0), .val (.ref d), .val (.int O), .val (.int N)] [] := by first | (simp [entryFrame, mkF, argsToLocals, Value.category]; done) | rfl
set_option maxRecDepth 65536 in
set_option maxHeartbeats 40000000 in
theorem rm_lif {l : Launch} {Z : State} {a0 : Array Value} {zc : Int32} {fm : Value} (G : Gl Z a0 zc fm) (h : Heap) (s0 : Addr) (d : Addr) (O : Int32) (N : Int32) (o : Nat) (ks kd : ClassId) (Ns : Int32) (vs vd : List Value) (ds : List Int32) (hO : O = Int32.ofNat o) (hN : N = Int32.ofNat ds.length) (As : Arv Z h s0 ks .byte Ns vs (.int 0)) (hNs : ds.length ≤ Ns.toNatClampNeg) (hsrc : ∀ j, j < ds.length → vs.getD j (.int 0) = .int (lo8 (ds.getD j 0))) (hlat : ∀ c ∈ ds, Lat c) (D : Arv Z h d kd .byte (Int32.ofNat (2 * 16)) vd (.int 0)) (hvd : vd.length = 2 * 16) (hf : o + ds.length ≤ 16) (hsd : s0 ≠ d) :
    Met l Z consts_1 (⟨"java/lang/StringLatin1", "inflate", "([BI[BII)V"⟩ : MethodName) jdk_43_method_50_code 5 none ({ frames := 4, cells := 0, slots := 0, locals := 60 } : Room) #[.ref s0, .int 0, .ref d, .int O, .int N] h [d] [d] (fun v h' => v = none ∧ Arv Z h' d kd .byte (Int32.ofNat (2 * 16)) (vd.take (2 * o) ++ wideBytes ds ++ vd.drop (2 * (o + ds.length))) (.int 0)) := by
  have G0 := G
  obtain ⟨hw, hEL, SC, hz, SF, hfm, SA, SH, SL⟩ := G
  have hw1 : ∀ d ∈ StrChars.Road.words, d.before a0 Z = true := fun d q => hw d (sub1 d q)
  have hwA : ∀ d ∈ Bundle.stringAtoms, d.before a0 Z = true := fun d q => hw d (subA d q)
  refine Met.of (plainFor_of_name pn_3) ?_
  intro p e s m below meth c T hnm hret hlk hby hml hs w
  have hZ0 := w.old
  refine Run.cast (ef_lif m s0 d O N) ?_
  refine s_aload_n w (hb hby dlif_0) rfl rfl (pc' := 1) rfl ?_
  refine s_iload_n w (hb hby dlif_1) rfl (pc' := 2) rfl ?_
  refine s_aload_n w (hb hby dlif_2) rfl rfl (pc' := 3) rfl ?_
  refine s_iload_n w (hb hby dlif_3) rfl (pc' := 4) rfl ?_
  refine s_iload w (hb hby dlif_4) rfl (pc' := 6) rfl ?_
  refine w_staticN w hEL (y := (⟨"java/lang/StringUTF16", "inflate", "([BI[BII)V"⟩ : MethodName)) (hw _ (List.mem_of_getElem? (i := 233) rfl)) (hw _ (List.mem_of_getElem? (i := 234) rfl)) (hw _ (List.mem_of_getElem? (i := 22) rfl)) (hw _ (List.mem_of_getElem? (i := 235) rfl)) (by decide) (rm_uif G0 h s0 d O N o ks kd Ns vs vd ds hO hN As hNs hsrc hlat D hvd hf hsd) (allS (List.mem_of_getElem? (i := 0) rfl) all0) (allS (Or.inl (List.mem_of_getElem? (i := 0) rfl)) all0) (argsL := [.ref s0, .int 0, .ref d, .int O, .int N]) (rest := []) (lenOf (by decide +kernel : parseMethodDescriptor "([BI[BII)V" = some ⟨[(.array .byte), .int, (.array .byte), .int, .int], none⟩) rfl) rfl rfl (hb hby dlif_6) (by rw [hml]; rfl) (W := 0) (Nat.le_of_eq rfl) (by decide) (by decide) (by decide) (by decide) (pc' := 9) rfl fun u1 N2 T h3 w K4 P5 => ?_
  obtain ⟨rfl, P6⟩ := P5
  obtain ⟨rfl, P9⟩ := P6
  show Run p e below _ T (mkF m 9 #[.val (.ref s0), .val (.int 0), .val (.ref d), .val (.int O), .val (.int N)] [])
  exact w_return w hEL hs hlk hret (hb hby dlif_9) (by decide) (by decide) ⟨rfl, P9⟩
theorem dail0_0 : decode jdk_68_method_68_code 0 = .ok (.getstatic 18, 3) := by decide +kernel
theorem dail0_3 : decode jdk_68_method_68_code 3 = .ok (.ifCond .eq 14, 3) := by decide +kernel
theorem dail0_6 : decode jdk_68_method_68_code 6 = .ok (.aload_n 0, 1) := by decide +kernel
theorem dail0_7 : decode jdk_68_method_68_code 7 = .ok (.getfield 22, 3) := by decide +kernel
theorem dail0_10 : decode jdk_68_method_68_code 10 = .ok (.ifCond .ne 7, 3) := by decide +kernel
theorem dail0_13 : decode jdk_68_method_68_code 13 = .ok (.iconst 1, 1) := by decide +kernel
theorem dail0_14 : decode jdk_68_method_68_code 14 = .ok (.goto 4, 3) := by decide +kernel
theorem dail0_17 : decode jdk_68_method_68_code 17 = .ok (.iconst 0, 1) := by decide +kernel
theorem dail0_18 : decode jdk_68_method_68_code 18 = .ok (.ireturn, 1) := by decide +kernel
theorem pn_4 : plainName "java/lang/AbstractStringBuilder" = true := by first | (simp [plainName, overriddenIn]; done) | decide +kernel
theorem ef_ail0 (m : MethodId) (b : Addr) : entryFrame m #[.ref b] 1 = mkF m 0 #[.val (.ref b)] [] := by first | (simp [entryFrame, mkF, argsToLocals, Value.category]; done) | rfl
set_option maxRecDepth 65536 in
set_option maxHeartbeats 40000000 in
theorem rm_ail0 {l : Launch} {Z : State} {a0 : Array Value} {zc : Int32} {fm : Value} (G : Gl Z a0 zc fm) (h : Heap) (b : Addr) (F : Fld Z h b ASB "coder" "B" (.int 0)) :
    Met l Z consts_1 (⟨"java/lang/AbstractStringBuilder", "isLatin1", "()Z"⟩ : MethodName) jdk_68_method_68_code 1 (some .boolean) ({ frames := 0, cells := 0, slots := 0, locals := 0 } : Room) #[.ref b] h [] [] (fun v h' => v = some (.int 1) ∧ h = h') := by
  have G0 := G
  obtain ⟨hw, hEL, SC, hz, SF, hfm, SA, SH, SL⟩ := G
  have hw1 : ∀ d ∈ StrChars.Road.words, d.before a0 Z = true := fun d q => hw d (sub1 d q)
  have hwA : ∀ d ∈ Bundle.stringAtoms, d.before a0 Z = true := fun d q => hw d (subA d q)
  refine Met.of (plainFor_of_name pn_4) ?_
  intro p e s m below meth c T hnm hret hlk hby hml hs w
  have hZ0 := w.old
  refine Run.cast (ef_ail0 m b) ?_
  refine w_getS w (hw _ (List.mem_of_getElem? (i := 74) rfl)) Via.refl (SC.ext w.old) (hb hby dail0_0) (pc' := 3) rfl fun T w => ?_
  refine s_if_eq w (hb hby dail0_3) (by decide) (pc1 := 6) rfl (pc2 := 17) rfl (fun ct1 => ?_) (fun ct1 => ?_)
  · -- ¬ (zc = 0)
    refine s_aload_n w (hb hby dail0_6) rfl rfl (pc' := 7) rfl ?_
    refine w_getF w (hw _ (List.mem_of_getElem? (i := 77) rfl)) Via.refl F (hb hby dail0_7) (pc' := 10) rfl fun T w => ?_
    refine s_if_ne w (hb hby dail0_10) (by decide) (pc1 := 13) rfl (pc2 := 17) rfl (fun _ => ?_) (fun q => absurd q (by decide))
    refine s_iconst w (hb hby dail0_13) (v := 1) rfl (pc' := 14) rfl ?_
    refine s_goto w (hb hby dail0_14) (by decide) (pc' := 18) rfl ?_
    exact w_ireturn w hEL hs hlk hret rfl (Or.inr (Or.inl rfl)) (hb hby dail0_18) (by decide) (by decide) ⟨rfl, rfl⟩
  · -- zc = 0
    refine s_iconst w (hb hby dail0_17) (v := 0) rfl (pc' := 18) rfl ?_
    exact absurd ct1 hz
theorem dail1_0 : decode jdk_68_method_68_code 0 = .ok (.getstatic 18, 3) := by decide +kernel
theorem dail1_3 : decode jdk_68_method_68_code 3 = .ok (.ifCond .eq 14, 3) := by decide +kernel
theorem dail1_6 : decode jdk_68_method_68_code 6 = .ok (.aload_n 0, 1) := by decide +kernel
theorem dail1_7 : decode jdk_68_method_68_code 7 = .ok (.getfield 22, 3) := by decide +kernel
theorem dail1_10 : decode jdk_68_method_68_code 10 = .ok (.ifCond .ne 7, 3) := by decide +kernel
theorem dail1_13 : decode jdk_68_method_68_code 13 = .ok (.iconst 1, 1) := by decide +kernel
theorem dail1_14 : decode jdk_68_method_68_code 14 = .ok (.goto 4, 3) := by decide +kernel
theorem dail1_17 : decode jdk_68_method_68_code 17 = .ok (.iconst 0, 1) := by decide +kernel
theorem dail1_18 : decode jdk_68_method_68_code 18 = .ok (.ireturn, 1) := by decide +kernel
theorem ef_ail1 (m : MethodId) (b : Addr) : entryFrame m #[.ref b] 1 = mkF m 0 #[.val (.ref b)] [] := by first | (simp [entryFrame, mkF, argsToLocals, Value.category]; done) | rfl
set_option maxRecDepth 65536 in
set_option maxHeartbeats 40000000 in
theorem rm_ail1 {l : Launch} {Z : State} {a0 : Array Value} {zc : Int32} {fm : Value} (G : Gl Z a0 zc fm) (h : Heap) (b : Addr) (F : Fld Z h b ASB "coder" "B" (.int 1)) :
    Met l Z consts_1 (⟨"java/lang/AbstractStringBuilder", "isLatin1", "()Z"⟩ : MethodName) jdk_68_method_68_code 1 (some .boolean) ({ frames := 0, cells := 0, slots := 0, locals := 0 } : Room) #[.ref b] h [] [] (fun v h' => v = some (.int 0) ∧ h = h') := by
  have G0 := G
  obtain ⟨hw, hEL, SC, hz, SF, hfm, SA, SH, SL⟩ := G
  have hw1 : ∀ d ∈ StrChars.Road.words, d.before a0 Z = true := fun d q => hw d (sub1 d q)
  have hwA : ∀ d ∈ Bundle.stringAtoms, d.before a0 Z = true := fun d q => hw d (subA d q)
  refine Met.of (plainFor_of_name pn_4) ?_
  intro p e s m below meth c T hnm hret hlk hby hml hs w
  have hZ0 := w.old
  refine Run.cast (ef_ail1 m b) ?_
  refine w_getS w (hw _ (List.mem_of_getElem? (i := 74) rfl)) Via.refl (SC.ext w.old) (hb hby dail1_0) (pc' := 3) rfl fun T w => ?_
  refine s_if_eq w (hb hby dail1_3) (by decide) (pc1 := 6) rfl (pc2 := 17) rfl (fun ct1 => ?_) (fun ct1 => ?_)
  · -- ¬ (zc = 0)
    refine s_aload_n w (hb hby dail1_6) rfl rfl (pc' := 7) rfl ?_
    refine w_getF w (hw _ (List.mem_of_getElem? (i := 77) rfl)) Via.refl F (hb hby dail1_7) (pc' := 10) rfl fun T w => ?_
    refine s_if_ne w (hb hby dail1_10) (by decide) (pc1 := 13) rfl (pc2 := 17) rfl (fun q => absurd q (by decide)) (fun _ => ?_)
    refine s_iconst w (hb hby dail1_17) (v := 0) rfl (pc' := 18) rfl ?_
    exact w_ireturn w hEL hs hlk hret rfl (Or.inr (Or.inl rfl)) (hb hby dail1_18) (by decide) (by decide) ⟨rfl, rfl⟩
  · -- zc = 0
    refine s_iconst w (hb hby dail1_17) (v := 0) rfl (pc' := 18) rfl ?_
    exact w_ireturn w hEL hs hlk hret rfl (Or.inr (Or.inl rfl)) (hb hby dail1_18) (by decide) (by decide) ⟨rfl, rfl⟩
theorem difl1_0 : decode jdk_68_method_11_code 0 = .ok (.aload_n 0, 1) := by decide +kernel
theorem difl1_1 : decode jdk_68_method_11_code 1 = .ok (.invokevirtual 83, 3) := by decide +kernel
theorem difl1_4 : decode jdk_68_method_11_code 4 = .ok (.ifCond .ne 4, 3) := by decide +kernel
theorem difl1_7 : decode jdk_68_method_11_code 7 = .ok (.return_, 1) := by decide +kernel
theorem difl1_8 : decode jdk_68_method_11_code 8 = .ok (.aload_n 0, 1) := by decide +kernel
theorem difl1_9 : decode jdk_68_method_11_code 9 = .ok (.getfield 15, 3) := by decide +kernel
theorem difl1_12 : decode jdk_68_method_11_code 12 = .ok (.arraylength, 1) := by decide +kernel
theorem difl1_13 : decode jdk_68_method_11_code 13 = .ok (.invokestatic 26, 3) := by decide +kernel
theorem difl1_16 : decode jdk_68_method_11_code 16 = .ok (.astore_n 1, 1) := by decide +kernel
theorem difl1_17 : decode jdk_68_method_11_code 17 = .ok (.aload_n 0, 1) := by decide +kernel
theorem difl1_18 : decode jdk_68_method_11_code 18 = .ok (.getfield 15, 3) := by decide +kernel
theorem difl1_21 : decode jdk_68_method_11_code 21 = .ok (.iconst 0, 1) := by decide +kernel
theorem difl1_22 : decode jdk_68_method_11_code 22 = .ok (.aload_n 1, 1) := by decide +kernel
theorem difl1_23 : decode jdk_68_method_11_code 23 = .ok (.iconst 0, 1) := by decide +kernel
theorem difl1_24 : decode jdk_68_method_11_code 24 = .ok (.aload_n 0, 1) := by decide +kernel
theorem difl1_25 : decode jdk_68_method_11_code 25 = .ok (.getfield 79, 3) := by decide +kernel
theorem difl1_28 : decode jdk_68_method_11_code 28 = .ok (.invokestatic 125, 3) := by decide +kernel
theorem difl1_31 : decode jdk_68_method_11_code 31 = .ok (.aload_n 0, 1) := by decide +kernel
theorem difl1_32 : decode jdk_68_method_11_code 32 = .ok (.aload_n 1, 1) := by decide +kernel
theorem difl1_33 : decode jdk_68_method_11_code 33 = .ok (.putfield 15, 3) := by decide +kernel
theorem difl1_36 : decode jdk_68_method_11_code 36 = .ok (.aload_n 0, 1) := by decide +kernel
theorem difl1_37 : decode jdk_68_method_11_code 37 = .ok (.iconst 1, 1) := by decide +kernel
theorem difl1_38 : decode jdk_68_method_11_code 38 = .ok (.putfield 22, 3) := by decide +kernel
theorem difl1_41 : decode jdk_68_method_11_code 41 = .ok (.return_, 1) := by decide +kernel
theorem ef_ifl1 (m : MethodId) (b : Addr) : entryFrame m #[.ref b] 2 = mkF m 0 #[.val (.ref b), .unset] [] := by first | (simp [entryFrame, mkF, argsToLocals, Value.category]; done) | rfl
set_option maxRecDepth 65536 in
set_option maxHeartbeats 40000000 in
theorem rm_ifl1 {l : Launch} {Z : State} {a0 : Array Value} {zc : Int32} {fm : Value} (G : Gl Z a0 zc fm) (h : Heap) (b : Addr) (t : Addr) (kt : ClassId) (cs : List Int32) (B0 : Sb1 Z h b t kt cs) :
    Met l Z consts_1 (⟨"java/lang/AbstractStringBuilder", "inflate", "()V"⟩ : MethodName) jdk_68_method_11_code 2 none ({ frames := 1, cells := 0, slots := 0, locals := 12 } : Room) #[.ref b] h [] [] (fun v h' => v = none ∧ h = h') := by
  have G0 := G
  obtain ⟨hw, hEL, SC, hz, SF, hfm, SA, SH, SL⟩ := G
  have hw1 : ∀ d ∈ StrChars.Road.words, d.before a0 Z = true := fun d q => hw d (sub1 d q)
  have hwA : ∀ d ∈ Bundle.stringAtoms, d.before a0 Z = true := fun d q => hw d (subA d q)
  refine Met.of (plainFor_of_name pn_4) ?_
  intro p e s m below meth c T hnm hret hlk hby hml hs w
  have hZ0 := w.old
  refine Run.cast (ef_ifl1 m b) ?_
  have B1 := B0
  obtain ⟨Eb, Vb, Cb, Nb, Mb, At, hcs, hcl⟩ := B0
  refine s_aload_n w (hb hby difl1_0) rfl rfl (pc' := 1) rfl ?_
  refine w_virtualK w hEL (y := (⟨"java/lang/AbstractStringBuilder", "isLatin1", "()Z"⟩ : MethodName)) (y' := (⟨"java/lang/AbstractStringBuilder", "isLatin1", "()Z"⟩ : MethodName)) (C := "java/lang/StringBuilder") (a := b) (hw _ (List.mem_of_getElem? (i := 222) rfl)) (hw _ (List.mem_of_getElem? (i := 153) rfl)) (hw _ (List.mem_of_getElem? (i := 142) rfl)) rfl (hw _ (List.mem_of_getElem? (i := 155) rfl)) (hw _ (List.mem_of_getElem? (i := 154) rfl)) (hw _ (List.mem_of_getElem? (i := 71) rfl)) (hw _ (List.mem_of_getElem? (i := 156) rfl)) (by decide) Eb (rm_ail1 G0 h b Cb) all0 all0 (argsL := []) (rest := []) (lenOf (by decide +kernel : parseMethodDescriptor "()Z" = some ⟨[], (some .boolean)⟩) rfl) rfl rfl (hb hby difl1_1) (by rw [hml]; rfl) (W := 0) (Nat.le_of_eq rfl) (by decide) (by decide) (by decide) (by decide) (pc' := 4) rfl fun u1 N2 T h3 w K4 P5 => ?_
  obtain ⟨rfl, P6⟩ := P5
  obtain ⟨rfl, rfl⟩ := P6
  show Run p e below _ T (mkF m 4 #[.val (.ref b), .unset] [.int 0])
  refine s_if_ne w (hb hby difl1_4) (by decide) (pc1 := 7) rfl (pc2 := 8) rfl (fun _ => ?_) (fun q => absurd q (by decide))
  exact w_return w hEL hs hlk hret (hb hby difl1_7) (by decide) (by decide) ⟨rfl, rfl⟩
theorem difl0_0 : decode jdk_68_method_11_code 0 = .ok (.aload_n 0, 1) := by decide +kernel
theorem difl0_1 : decode jdk_68_method_11_code 1 = .ok (.invokevirtual 83, 3) := by decide +kernel
theorem difl0_4 : decode jdk_68_method_11_code 4 = .ok (.ifCond .ne 4, 3) := by decide +kernel
theorem difl0_7 : decode jdk_68_method_11_code 7 = .ok (.return_, 1) := by decide +kernel
theorem difl0_8 : decode jdk_68_method_11_code 8 = .ok (.aload_n 0, 1) := by decide +kernel
theorem difl0_9 : decode jdk_68_method_11_code 9 = .ok (.getfield 15, 3) := by decide +kernel
theorem difl0_12 : decode jdk_68_method_11_code 12 = .ok (.arraylength, 1) := by decide +kernel
theorem difl0_13 : decode jdk_68_method_11_code 13 = .ok (.invokestatic 26, 3) := by decide +kernel
theorem difl0_16 : decode jdk_68_method_11_code 16 = .ok (.astore_n 1, 1) := by decide +kernel
theorem difl0_17 : decode jdk_68_method_11_code 17 = .ok (.aload_n 0, 1) := by decide +kernel
theorem difl0_18 : decode jdk_68_method_11_code 18 = .ok (.getfield 15, 3) := by decide +kernel
theorem difl0_21 : decode jdk_68_method_11_code 21 = .ok (.iconst 0, 1) := by decide +kernel
theorem difl0_22 : decode jdk_68_method_11_code 22 = .ok (.aload_n 1, 1) := by decide +kernel
theorem difl0_23 : decode jdk_68_method_11_code 23 = .ok (.iconst 0, 1) := by decide +kernel
theorem difl0_24 : decode jdk_68_method_11_code 24 = .ok (.aload_n 0, 1) := by decide +kernel
theorem difl0_25 : decode jdk_68_method_11_code 25 = .ok (.getfield 79, 3) := by decide +kernel
theorem difl0_28 : decode jdk_68_method_11_code 28 = .ok (.invokestatic 125, 3) := by decide +kernel
theorem difl0_31 : decode jdk_68_method_11_code 31 = .ok (.aload_n 0, 1) := by decide +kernel
theorem difl0_32 : decode jdk_68_method_11_code 32 = .ok (.aload_n 1, 1) := by decide +kernel
theorem difl0_33 : decode jdk_68_method_11_code 33 = .ok (.putfield 15, 3) := by decide +kernel
theorem difl0_36 : decode jdk_68_method_11_code 36 = .ok (.aload_n 0, 1) := by decide +kernel
theorem difl0_37 : decode jdk_68_method_11_code 37 = .ok (.iconst 1, 1) := by decide +kernel
theorem difl0_38 : decode jdk_68_method_11_code 38 = .ok (.putfield 22, 3) := by decide +kernel
theorem difl0_41 : decode jdk_68_method_11_code 41 = .ok (.return_, 1) := by decide +kernel
theorem ef_ifl0 (m : MethodId) (b : Addr) : entryFrame m #[.ref b] 2 = mkF m 0 #[.val (.ref b), .unset] [] := by first | (simp [entryFrame, mkF, argsToLocals, Value.category]; done) | rfl
set_option maxRecDepth 65536 in
set_option maxHeartbeats 40000000 in
theorem rm_ifl0 {l : Launch} {Z : State} {a0 : Array Value} {zc : Int32} {fm : Value} (G : Gl Z a0 zc fm) (h : Heap) (b : Addr) (t : Addr) (kt : ClassId) (cs : List Int32) (B0 : Sb0 Z h b t kt cs) :
    MetN l Z consts_1 (⟨"java/lang/AbstractStringBuilder", "inflate", "()V"⟩ : MethodName) jdk_68_method_11_code 2 none ({ frames := 5, cells := 1, slots := 32, locals := 76 } : Room) #[.ref b] h [] [b] (fun v h' N => v = none ∧ ∃ t1 k1, N = [t1] ∧ h.size ≤ t1 ∧ Sbp Z h' b t1 k1 cs) := by
  have G0 := G
  obtain ⟨hw, hEL, SC, hz, SF, hfm, SA, SH, SL⟩ := G
  have hw1 : ∀ d ∈ StrChars.Road.words, d.before a0 Z = true := fun d q => hw d (sub1 d q)
  have hwA : ∀ d ∈ Bundle.stringAtoms, d.before a0 Z = true := fun d q => hw d (subA d q)
  refine MetN.of (plainFor_of_name pn_4) ?_
  intro p e s m below meth c T hnm hret hlk hby hml hs w
  have hZ0 := w.old
  refine Run.cast (ef_ifl0 m b) ?_
  have B1 := B0
  obtain ⟨Eb, Vb, Cb, Nb, Mb, At, hcs, hcl⟩ := B0
  refine s_aload_n w (hb hby difl0_0) rfl rfl (pc' := 1) rfl ?_
  refine w_virtualK w hEL (y := (⟨"java/lang/AbstractStringBuilder", "isLatin1", "()Z"⟩ : MethodName)) (y' := (⟨"java/lang/AbstractStringBuilder", "isLatin1", "()Z"⟩ : MethodName)) (C := "java/lang/StringBuilder") (a := b) (hw _ (List.mem_of_getElem? (i := 222) rfl)) (hw _ (List.mem_of_getElem? (i := 153) rfl)) (hw _ (List.mem_of_getElem? (i := 142) rfl)) rfl (hw _ (List.mem_of_getElem? (i := 155) rfl)) (hw _ (List.mem_of_getElem? (i := 154) rfl)) (hw _ (List.mem_of_getElem? (i := 71) rfl)) (hw _ (List.mem_of_getElem? (i := 156) rfl)) (by decide) Eb (rm_ail0 G0 h b Cb) all0 all0 (argsL := []) (rest := []) (lenOf (by decide +kernel : parseMethodDescriptor "()Z" = some ⟨[], (some .boolean)⟩) rfl) rfl rfl (hb hby difl0_1) (by rw [hml]; rfl) (W := 0) (Nat.le_of_eq rfl) (by decide) (by decide) (by decide) (by decide) (pc' := 4) rfl fun u1 N2 T h3 w K4 P5 => ?_
  obtain ⟨rfl, P6⟩ := P5
  obtain ⟨rfl, rfl⟩ := P6
  show Run p e below _ T (mkF m 4 #[.val (.ref b), .unset] [.int 1])
  refine s_if_ne w (hb hby difl0_4) (by decide) (pc1 := 7) rfl (pc2 := 8) rfl (fun q => absurd q (by decide)) (fun _ => ?_)
  refine s_aload_n w (hb hby difl0_8) rfl rfl (pc' := 9) rfl ?_
  refine w_getF w (hw _ (List.mem_of_getElem? (i := 75) rfl)) Via.refl Vb (hb hby difl0_9) (pc' := 12) rfl fun T w => ?_
  refine w_len w At (hb hby difl0_12) (pc' := 13) rfl ?_
  refine w_staticN w hEL (y := (⟨"java/lang/StringUTF16", "newBytesFor", "(I)[B"⟩ : MethodName)) (hw _ (List.mem_of_getElem? (i := 223) rfl)) (hw _ (List.mem_of_getElem? (i := 224) rfl)) (hw _ (List.mem_of_getElem? (i := 22) rfl)) (hw _ (List.mem_of_getElem? (i := 225) rfl)) (by decide) (rm_nbf G0 h _ 16 rfl (by decide)) all0 all0 (argsL := [.int (Int32.ofNat 16)]) (rest := []) (lenOf (by decide +kernel : parseMethodDescriptor "(I)[B" = some ⟨[.int], (some (.array .byte))⟩) rfl) rfl rfl (hb hby difl0_13) (by rw [hml]; rfl) (W := 0) (Nat.le_of_eq rfl) (by decide) (by decide) (by decide) (by decide) (pc' := 16) rfl fun u8 N9 T h10 w K11 P12 => ?_
  obtain ⟨t1, k1, rfl, rfl, q1, A1⟩ := P12
  have E13 := Keep.ext0 K11
  show Run p e below _ T (mkF m 16 #[.val (.ref b), .unset] [.ref t1])
  refine s_astore_n w #[.val (.ref b), .val (.ref t1)] (hb hby difl0_16) rfl rfl (pc' := 17) rfl ?_
  refine s_aload_n w (hb hby difl0_17) rfl rfl (pc' := 18) rfl ?_
  refine w_getF w (hw _ (List.mem_of_getElem? (i := 75) rfl)) Via.refl (Vb.ext E13) (hb hby difl0_18) (pc' := 21) rfl fun T w => ?_
  refine s_iconst w (hb hby difl0_21) (v := 0) rfl (pc' := 22) rfl ?_
  refine s_aload_n w (hb hby difl0_22) rfl rfl (pc' := 23) rfl ?_
  refine s_iconst w (hb hby difl0_23) (v := 0) rfl (pc' := 24) rfl ?_
  refine s_aload_n w (hb hby difl0_24) rfl rfl (pc' := 25) rfl ?_
  refine w_getF w (hw _ (List.mem_of_getElem? (i := 99) rfl)) Via.refl (Nb.ext E13) (hb hby difl0_25) (pc' := 28) rfl fun T w => ?_
  refine w_staticN w hEL (y := (⟨"java/lang/StringLatin1", "inflate", "([BI[BII)V"⟩ : MethodName)) (hw _ (List.mem_of_getElem? (i := 230) rfl)) (hw _ (List.mem_of_getElem? (i := 231) rfl)) (hw _ (List.mem_of_getElem? (i := 188) rfl)) (hw _ (List.mem_of_getElem? (i := 232) rfl)) (by decide) (rm_lif G0 h10 t t1 0 _ 0 kt k1 _ _ _ cs rfl rfl (At.ext E13) (by rw [ofNat_nat (by decide)]; omega) (fun j hj => room_get hj) hcs A1 (by simp) (by omega) (fun z => absurd q1 (by rw [← z]; exact Nat.not_le.mpr At.lt))) (allS (List.mem_of_getElem? (i := 0) rfl) all0) (allS (Or.inr q1) all0) (argsL := [.ref t, .int 0, .ref t1, .int 0, .int (Int32.ofNat cs.length)]) (rest := []) (lenOf (by decide +kernel : parseMethodDescriptor "([BI[BII)V" = some ⟨[(.array .byte), .int, (.array .byte), .int, .int], none⟩) rfl) rfl rfl (hb hby difl0_28) (by rw [hml]; rfl) (W := 0) (Nat.le_of_eq rfl) (by decide) (by decide) (by decide) (by decide) (pc' := 31) rfl fun u14 N15 T h16 w K17 P18 => ?_
  obtain ⟨rfl, P19⟩ := P18
  obtain ⟨rfl, D1⟩ := P19
  have D2 : Arv Z h16 t1 k1 .byte (Int32.ofNat (2 * 16)) (wroom cs 16) (.int 0) := by have e : List.take (2 * 0) (List.replicate (2 * 16) (Value.int 0)) ++ wideBytes cs ++ List.drop (2 * (0 + cs.length)) (List.replicate (2 * 16) (Value.int 0)) = wroom cs 16 := (by have e2 : 2 * 16 - 2 * (0 + cs.length) = 2 * (16 - cs.length) := (by omega); rw [List.drop_replicate, e2, wroom]; simp); rw [← e]; exact D1
  have E20 := Ext.kp E13 K17 (allS q1 all0)
  show Run p e below _ T (mkF m 31 #[.val (.ref b), .val (.ref t1)] [])
  refine s_aload_n w (hb hby difl0_31) rfl rfl (pc' := 32) rfl ?_
  refine s_aload_n w (hb hby difl0_32) rfl rfl (pc' := 33) rfl ?_
  have Vq := (Vb.ext E20)
  have Cq := (Cb.ext E20)
  have Nq := (Nb.ext E20)
  have Mq := (Mb.ext E20)
  have Eq := (Eb.ext E20)
  refine w_putF w (hw _ (List.mem_of_getElem? (i := 75) rfl)) Via.refl Vq Eq (Or.inl (hw _ (List.mem_of_getElem? (i := 76) rfl))) (hw _ (List.mem_of_getElem? (i := 62) rfl)) (ty := .array .byte) (by decide) rfl rfl (hb hby difl0_33) (Or.inl (List.mem_singleton.mpr rfl)) (Or.inl ⟨by decide, by decide⟩) (pc' := 36) rfl fun T g1 w W1 F1 Y1 => ?_
  have sc : Jvm.RoadKit.slotOf Z ASB "coder" "B" ≠ Jvm.RoadKit.slotOf Z ASB "value" "[B" := slot_ne (C := SBC) (Or.inl (hw _ (List.mem_of_getElem? (i := 78) rfl))) (Or.inl (hw _ (List.mem_of_getElem? (i := 76) rfl))) (by decide) (t := .byte) (t' := .array .byte) (by decide) (by decide)
  have sn : Jvm.RoadKit.slotOf Z ASB "count" "I" ≠ Jvm.RoadKit.slotOf Z ASB "value" "[B" := slot_ne (C := SBC) (Or.inl (hw _ (List.mem_of_getElem? (i := 100) rfl))) (Or.inl (hw _ (List.mem_of_getElem? (i := 76) rfl))) (by decide) (t := .int) (t' := .array .byte) (by decide) (by decide)
  have sm : Jvm.RoadKit.slotOf Z ASB "maybeLatin1" "Z" ≠ Jvm.RoadKit.slotOf Z ASB "value" "[B" := slot_ne (C := SBC) (Or.inl (hw _ (List.mem_of_getElem? (i := 250) rfl))) (Or.inl (hw _ (List.mem_of_getElem? (i := 76) rfl))) (by decide) (t := .boolean) (t' := .array .byte) (by decide) (by decide)
  have sn2 : Jvm.RoadKit.slotOf Z ASB "count" "I" ≠ Jvm.RoadKit.slotOf Z ASB "coder" "B" := slot_ne (C := SBC) (Or.inl (hw _ (List.mem_of_getElem? (i := 100) rfl))) (Or.inl (hw _ (List.mem_of_getElem? (i := 78) rfl))) (by decide) (t := .int) (t' := .byte) (by decide) (by decide)
  have sm2 : Jvm.RoadKit.slotOf Z ASB "maybeLatin1" "Z" ≠ Jvm.RoadKit.slotOf Z ASB "coder" "B" := slot_ne (C := SBC) (Or.inl (hw _ (List.mem_of_getElem? (i := 250) rfl))) (Or.inl (hw _ (List.mem_of_getElem? (i := 78) rfl))) (by decide) (t := .boolean) (t' := .byte) (by decide) (by decide)
  have nb : t1 ≠ b := (Exa.neArv Eq D2 (hw _ (List.mem_of_getElem? (i := 62) rfl))).symm
  refine s_aload_n w (hb hby difl0_36) rfl rfl (pc' := 37) rfl ?_
  refine s_iconst w (hb hby difl0_37) (v := 1) rfl (pc' := 38) rfl ?_
  refine w_putF w (hw _ (List.mem_of_getElem? (i := 77) rfl)) Via.refl (Cq.other W1 (Or.inr sc)) Y1 (Or.inl (hw _ (List.mem_of_getElem? (i := 78) rfl))) (hw _ (List.mem_of_getElem? (i := 62) rfl)) (ty := .byte) (by decide) rfl rfl (hb hby difl0_38) (Or.inl (List.mem_singleton.mpr rfl)) (Or.inl ⟨by decide, by decide⟩) (pc' := 41) rfl fun T g2 w W2 F2 Y2 => ?_
  exact w_returnN w hEL hs hlk hret (hb hby difl0_41) (by decide) (by decide) (N := [t1]) (allP (List.mem_of_getElem? (i := 0) rfl)) ⟨rfl, t1, k1, rfl, q1, Y2, F1.other W2 (Or.inr sc.symm), F2, (Nq.other W1 (Or.inr sn)).other W2 (Or.inr sn2), (Mq.other W1 (Or.inr sm)).other W2 (Or.inr sm2), (D2.other W1 nb).other W2 nb, fun c q => lat_chr (hcs c q), hcl⟩
theorem dinf00_0 : decode jdk_68_method_71_code 0 = .ok (.getstatic 18, 3) := by decide +kernel
theorem dinf00_3 : decode jdk_68_method_71_code 3 = .ok (.ifCond .eq 18, 3) := by decide +kernel
theorem dinf00_6 : decode jdk_68_method_71_code 6 = .ok (.aload_n 0, 1) := by decide +kernel
theorem dinf00_7 : decode jdk_68_method_71_code 7 = .ok (.getfield 22, 3) := by decide +kernel
theorem dinf00_10 : decode jdk_68_method_71_code 10 = .ok (.aload_n 1, 1) := by decide +kernel
theorem dinf00_11 : decode jdk_68_method_71_code 11 = .ok (.invokevirtual 40, 3) := by decide +kernel
theorem dinf00_14 : decode jdk_68_method_71_code 14 = .ok (.if_icmp .eq 7, 3) := by decide +kernel
theorem dinf00_17 : decode jdk_68_method_71_code 17 = .ok (.aload_n 0, 1) := by decide +kernel
theorem dinf00_18 : decode jdk_68_method_71_code 18 = .ok (.invokevirtual 195, 3) := by decide +kernel
theorem dinf00_21 : decode jdk_68_method_71_code 21 = .ok (.return_, 1) := by decide +kernel
theorem ef_inf00 (m : MethodId) (b : Addr) (x : Addr) : entryFrame m #[.ref b, .ref x] 2 = mkF m 0 #[.val (.ref b), .val (.ref x)] [] := by first | (simp [entryFrame, mkF, argsToLocals, Value.category]; done) | rfl
set_option maxRecDepth 65536 in
set_option maxHeartbeats 40000000 in
theorem rm_inf00 {l : Launch} {Z : State} {a0 : Array Value} {zc : Int32} {fm : Value} (G : Gl Z a0 zc fm) (h : Heap) (b : Addr) (x : Addr) (t tx : Addr) (kt kx : ClassId) (cs ds : List Int32) (B0 : Sb0 Z h b t kt cs) (X0 : S0 Z h x tx kx ds) :
    Met l Z consts_1 (⟨"java/lang/AbstractStringBuilder", "inflateIfNeededFor", "(Ljava/lang/String;)V"⟩ : MethodName) jdk_68_method_71_code 2 none ({ frames := 1, cells := 0, slots := 0, locals := 13 } : Room) #[.ref b, .ref x] h [] [] (fun v h' => v = none ∧ h = h') := by
  have G0 := G
  obtain ⟨hw, hEL, SC, hz, SF, hfm, SA, SH, SL⟩ := G
  have hw1 : ∀ d ∈ StrChars.Road.words, d.before a0 Z = true := fun d q => hw d (sub1 d q)
  have hwA : ∀ d ∈ Bundle.stringAtoms, d.before a0 Z = true := fun d q => hw d (subA d q)
  refine Met.of (plainFor_of_name pn_4) ?_
  intro p e s m below meth c T hnm hret hlk hby hml hs w
  have hZ0 := w.old
  refine Run.cast (ef_inf00 m b x) ?_
  have B1 := B0
  obtain ⟨Eb, Vb, Cb, Nb, Mb, At, hcs, hcl⟩ := B0
  have X1 := X0
  have Sx := X0.str
  obtain ⟨Ex, Vx, Cx, Ax, hds, hdl⟩ := X0
  refine w_getS w (hw _ (List.mem_of_getElem? (i := 74) rfl)) Via.refl (SC.ext w.old) (hb hby dinf00_0) (pc' := 3) rfl fun T w => ?_
  refine s_if_eq w (hb hby dinf00_3) (by decide) (pc1 := 6) rfl (pc2 := 21) rfl (fun ct1 => ?_) (fun ct1 => ?_)
  · skip
    refine s_aload_n w (hb hby dinf00_6) rfl rfl (pc' := 7) rfl ?_
    refine w_getF w (hw _ (List.mem_of_getElem? (i := 77) rfl)) Via.refl Cb (hb hby dinf00_7) (pc' := 10) rfl fun T w => ?_
    refine s_aload_n w (hb hby dinf00_10) rfl rfl (pc' := 11) rfl ?_
    refine w_virtualN w hEL (y := (⟨"java/lang/String", "coder", "()B"⟩ : MethodName)) (y' := (⟨"java/lang/String", "coder", "()B"⟩ : MethodName)) (C := "java/lang/String") (a := x) (hw _ (List.mem_of_getElem? (i := 116) rfl)) (hw _ (List.mem_of_getElem? (i := 95) rfl)) (hw _ (List.mem_of_getElem? (i := 97) rfl)) (hw _ (List.mem_of_getElem? (i := 97) rfl)) (hw _ (List.mem_of_getElem? (i := 96) rfl)) (hw _ (List.mem_of_getElem? (i := 7) rfl)) (hw _ (List.mem_of_getElem? (i := 98) rfl)) (by decide) Ex (rm_cdr0 G0 h x Cx) all0 all0 (argsL := []) (rest := [.int 0]) (lenOf (by decide +kernel : parseMethodDescriptor "()B" = some ⟨[], (some .byte)⟩) rfl) rfl rfl (hb hby dinf00_11) (by rw [hml]; rfl) (W := 1) (Nat.le_of_eq rfl) (by decide) (by decide) (by decide) (by decide) (pc' := 14) rfl fun u2 N3 T h4 w K5 P6 => ?_
    obtain ⟨rfl, P7⟩ := P6
    obtain ⟨rfl, rfl⟩ := P7
    show Run p e below _ T (mkF m 14 #[.val (.ref b), .val (.ref x)] [.int 0, .int 0])
    refine s_icmp_eq w (hb hby dinf00_14) (by decide) (pc1 := 17) rfl (pc2 := 21) rfl (fun q => absurd q (by decide)) (fun _ => ?_)
    exact w_return w hEL hs hlk hret (hb hby dinf00_21) (by decide) (by decide) ⟨rfl, rfl⟩
  · exact absurd ct1 hz
theorem dinf01_0 : decode jdk_68_method_71_code 0 = .ok (.getstatic 18, 3) := by decide +kernel
theorem dinf01_3 : decode jdk_68_method_71_code 3 = .ok (.ifCond .eq 18, 3) := by decide +kernel
theorem dinf01_6 : decode jdk_68_method_71_code 6 = .ok (.aload_n 0, 1) := by decide +kernel
theorem dinf01_7 : decode jdk_68_method_71_code 7 = .ok (.getfield 22, 3) := by decide +kernel
theorem dinf01_10 : decode jdk_68_method_71_code 10 = .ok (.aload_n 1, 1) := by decide +kernel
theorem dinf01_11 : decode jdk_68_method_71_code 11 = .ok (.invokevirtual 40, 3) := by decide +kernel
theorem dinf01_14 : decode jdk_68_method_71_code 14 = .ok (.if_icmp .eq 7, 3) := by decide +kernel
theorem dinf01_17 : decode jdk_68_method_71_code 17 = .ok (.aload_n 0, 1) := by decide +kernel
theorem dinf01_18 : decode jdk_68_method_71_code 18 = .ok (.invokevirtual 195, 3) := by decide +kernel
theorem dinf01_21 : decode jdk_68_method_71_code 21 = .ok (.return_, 1) := by decide +kernel
theorem ef_inf01 (m : MethodId) (b : Addr) (x : Addr) : entryFrame m #[.ref b, .ref x] 2 = mkF m 0 #[.val (.ref b), .val (.ref x)] [] := by first | (simp [entryFrame, mkF, argsToLocals, Value.category]; done) | rfl
set_option maxRecDepth 65536 in
set_option maxHeartbeats 40000000 in
theorem rm_inf01 {l : Launch} {Z : State} {a0 : Array Value} {zc : Int32} {fm : Value} (G : Gl Z a0 zc fm) (h : Heap) (b : Addr) (x : Addr) (t tx : Addr) (kt kx : ClassId) (cs ds : List Int32) (B0 : Sb0 Z h b t kt cs) (X0 : S1 Z h x tx kx ds) :
    MetN l Z consts_1 (⟨"java/lang/AbstractStringBuilder", "inflateIfNeededFor", "(Ljava/lang/String;)V"⟩ : MethodName) jdk_68_method_71_code 2 none ({ frames := 6, cells := 1, slots := 32, locals := 89 } : Room) #[.ref b, .ref x] h [] [b] (fun v h' N => v = none ∧ ∃ t1 k1, N = [t1] ∧ h.size ≤ t1 ∧ Sbp Z h' b t1 k1 cs) := by
  have G0 := G
  obtain ⟨hw, hEL, SC, hz, SF, hfm, SA, SH, SL⟩ := G
  have hw1 : ∀ d ∈ StrChars.Road.words, d.before a0 Z = true := fun d q => hw d (sub1 d q)
  have hwA : ∀ d ∈ Bundle.stringAtoms, d.before a0 Z = true := fun d q => hw d (subA d q)
  refine MetN.of (plainFor_of_name pn_4) ?_
  intro p e s m below meth c T hnm hret hlk hby hml hs w
  have hZ0 := w.old
  refine Run.cast (ef_inf01 m b x) ?_
  have B1 := B0
  obtain ⟨Eb, Vb, Cb, Nb, Mb, At, hcs, hcl⟩ := B0
  have X1 := X0
  have Sx := X0.str
  obtain ⟨Ex, Vx, Cx, Ax, hds, hdl⟩ := X0
  refine w_getS w (hw _ (List.mem_of_getElem? (i := 74) rfl)) Via.refl (SC.ext w.old) (hb hby dinf01_0) (pc' := 3) rfl fun T w => ?_
  refine s_if_eq w (hb hby dinf01_3) (by decide) (pc1 := 6) rfl (pc2 := 21) rfl (fun ct1 => ?_) (fun ct1 => ?_)
  · skip
    refine s_aload_n w (hb hby dinf01_6) rfl rfl (pc' := 7) rfl ?_
    refine w_getF w (hw _ (List.mem_of_getElem? (i := 77) rfl)) Via.refl Cb (hb hby dinf01_7) (pc' := 10) rfl fun T w => ?_
    refine s_aload_n w (hb hby dinf01_10) rfl rfl (pc' := 11) rfl ?_
    refine w_virtualN w hEL (y := (⟨"java/lang/String", "coder", "()B"⟩ : MethodName)) (y' := (⟨"java/lang/String", "coder", "()B"⟩ : MethodName)) (C := "java/lang/String") (a := x) (hw _ (List.mem_of_getElem? (i := 116) rfl)) (hw _ (List.mem_of_getElem? (i := 95) rfl)) (hw _ (List.mem_of_getElem? (i := 97) rfl)) (hw _ (List.mem_of_getElem? (i := 97) rfl)) (hw _ (List.mem_of_getElem? (i := 96) rfl)) (hw _ (List.mem_of_getElem? (i := 7) rfl)) (hw _ (List.mem_of_getElem? (i := 98) rfl)) (by decide) Ex (rm_cdr1 G0 h x Cx) all0 all0 (argsL := []) (rest := [.int 0]) (lenOf (by decide +kernel : parseMethodDescriptor "()B" = some ⟨[], (some .byte)⟩) rfl) rfl rfl (hb hby dinf01_11) (by rw [hml]; rfl) (W := 1) (Nat.le_of_eq rfl) (by decide) (by decide) (by decide) (by decide) (pc' := 14) rfl fun u2 N3 T h4 w K5 P6 => ?_
    obtain ⟨rfl, P7⟩ := P6
    obtain ⟨rfl, rfl⟩ := P7
    show Run p e below _ T (mkF m 14 #[.val (.ref b), .val (.ref x)] [.int 1, .int 0])
    refine s_icmp_eq w (hb hby dinf01_14) (by decide) (pc1 := 17) rfl (pc2 := 21) rfl (fun _ => ?_) (fun q => absurd q (by decide))
    refine s_aload_n w (hb hby dinf01_17) rfl rfl (pc' := 18) rfl ?_
    refine w_privateN w hEL (y := (⟨"java/lang/AbstractStringBuilder", "inflate", "()V"⟩ : MethodName)) (C := "java/lang/StringBuilder") (a := b) (hw _ (List.mem_of_getElem? (i := 217) rfl)) (hw _ (List.mem_of_getElem? (i := 142) rfl)) rfl (hw _ (List.mem_of_getElem? (i := 219) rfl)) (hw _ (List.mem_of_getElem? (i := 218) rfl)) (hw _ (List.mem_of_getElem? (i := 71) rfl)) (hw _ (List.mem_of_getElem? (i := 221) rfl)) (by decide) Eb (rm_ifl0 G0 h b t kt cs B1) all0 (allS (Or.inl (List.mem_of_getElem? (i := 0) rfl)) all0) (argsL := []) (rest := []) (lenOf (by decide +kernel : parseMethodDescriptor "()V" = some ⟨[], none⟩) rfl) rfl rfl (hb hby dinf01_18) (by rw [hml]; rfl) (W := 0) (Nat.le_of_eq rfl) (by decide) (by decide) (by decide) (by decide) (pc' := 21) rfl fun u9 N10 T h11 w K12 P13 => ?_
    obtain ⟨rfl, t1, k1, rfl, P8, P9⟩ := P13
    show Run p e below _ T (mkF m 21 #[.val (.ref b), .val (.ref x)] [])
    exact w_returnN w hEL hs hlk hret (hb hby dinf01_21) (by decide) (by decide) (N := [t1]) (allP (List.mem_cons_self ..)) ⟨rfl, t1, k1, rfl, P8, P9⟩
  · exact absurd ct1 hz
theorem dinf10_0 : decode jdk_68_method_71_code 0 = .ok (.getstatic 18, 3) := by decide +kernel
theorem dinf10_3 : decode jdk_68_method_71_code 3 = .ok (.ifCond .eq 18, 3) := by decide +kernel
theorem dinf10_6 : decode jdk_68_method_71_code 6 = .ok (.aload_n 0, 1) := by decide +kernel
theorem dinf10_7 : decode jdk_68_method_71_code 7 = .ok (.getfield 22, 3) := by decide +kernel
theorem dinf10_10 : decode jdk_68_method_71_code 10 = .ok (.aload_n 1, 1) := by decide +kernel
theorem dinf10_11 : decode jdk_68_method_71_code 11 = .ok (.invokevirtual 40, 3) := by decide +kernel
theorem dinf10_14 : decode jdk_68_method_71_code 14 = .ok (.if_icmp .eq 7, 3) := by decide +kernel
theorem dinf10_17 : decode jdk_68_method_71_code 17 = .ok (.aload_n 0, 1) := by decide +kernel
theorem dinf10_18 : decode jdk_68_method_71_code 18 = .ok (.invokevirtual 195, 3) := by decide +kernel
theorem dinf10_21 : decode jdk_68_method_71_code 21 = .ok (.return_, 1) := by decide +kernel
theorem ef_inf10 (m : MethodId) (b : Addr) (x : Addr) : entryFrame m #[.ref b, .ref x] 2 = mkF m 0 #[.val (.ref b), .val (.ref x)] [] := by first | (simp [entryFrame, mkF, argsToLocals, Value.category]; done) | rfl
set_option maxRecDepth 65536 in
set_option maxHeartbeats 40000000 in
theorem rm_inf10 {l : Launch} {Z : State} {a0 : Array Value} {zc : Int32} {fm : Value} (G : Gl Z a0 zc fm) (h : Heap) (b : Addr) (x : Addr) (t tx : Addr) (kt kx : ClassId) (cs ds : List Int32) (B0 : Sb1 Z h b t kt cs) (X0 : S0 Z h x tx kx ds) :
    Met l Z consts_1 (⟨"java/lang/AbstractStringBuilder", "inflateIfNeededFor", "(Ljava/lang/String;)V"⟩ : MethodName) jdk_68_method_71_code 2 none ({ frames := 2, cells := 0, slots := 0, locals := 25 } : Room) #[.ref b, .ref x] h [] [] (fun v h' => v = none ∧ h = h') := by
  have G0 := G
  obtain ⟨hw, hEL, SC, hz, SF, hfm, SA, SH, SL⟩ := G
  have hw1 : ∀ d ∈ StrChars.Road.words, d.before a0 Z = true := fun d q => hw d (sub1 d q)
  have hwA : ∀ d ∈ Bundle.stringAtoms, d.before a0 Z = true := fun d q => hw d (subA d q)
  refine Met.of (plainFor_of_name pn_4) ?_
  intro p e s m below meth c T hnm hret hlk hby hml hs w
  have hZ0 := w.old
  refine Run.cast (ef_inf10 m b x) ?_
  have B1 := B0
  obtain ⟨Eb, Vb, Cb, Nb, Mb, At, hcs, hcl⟩ := B0
  have X1 := X0
  have Sx := X0.str
  obtain ⟨Ex, Vx, Cx, Ax, hds, hdl⟩ := X0
  refine w_getS w (hw _ (List.mem_of_getElem? (i := 74) rfl)) Via.refl (SC.ext w.old) (hb hby dinf10_0) (pc' := 3) rfl fun T w => ?_
  refine s_if_eq w (hb hby dinf10_3) (by decide) (pc1 := 6) rfl (pc2 := 21) rfl (fun ct1 => ?_) (fun ct1 => ?_)
  · skip
    refine s_aload_n w (hb hby dinf10_6) rfl rfl (pc' := 7) rfl ?_
    refine w_getF w (hw _ (List.mem_of_getElem? (i := 77) rfl)) Via.refl Cb (hb hby dinf10_7) (pc' := 10) rfl fun T w => ?_
    refine s_aload_n w (hb hby dinf10_10) rfl rfl (pc' := 11) rfl ?_
    refine w_virtualN w hEL (y := (⟨"java/lang/String", "coder", "()B"⟩ : MethodName)) (y' := (⟨"java/lang/String", "coder", "()B"⟩ : MethodName)) (C := "java/lang/String") (a := x) (hw _ (List.mem_of_getElem? (i := 116) rfl)) (hw _ (List.mem_of_getElem? (i := 95) rfl)) (hw _ (List.mem_of_getElem? (i := 97) rfl)) (hw _ (List.mem_of_getElem? (i := 97) rfl)) (hw _ (List.mem_of_getElem? (i := 96) rfl)) (hw _ (List.mem_of_getElem? (i := 7) rfl)) (hw _ (List.mem_of_getElem? (i := 98) rfl)) (by decide) Ex (rm_cdr0 G0 h x Cx) all0 all0 (argsL := []) (rest := [.int 1]) (lenOf (by decide +kernel : parseMethodDescriptor "()B" = some ⟨[], (some .byte)⟩) rfl) rfl rfl (hb hby dinf10_11) (by rw [hml]; rfl) (W := 1) (Nat.le_of_eq rfl) (by decide) (by decide) (by decide) (by decide) (pc' := 14) rfl fun u2 N3 T h4 w K5 P6 => ?_
    obtain ⟨rfl, P7⟩ := P6
    obtain ⟨rfl, rfl⟩ := P7
    show Run p e below _ T (mkF m 14 #[.val (.ref b), .val (.ref x)] [.int 0, .int 1])
    refine s_icmp_eq w (hb hby dinf10_14) (by decide) (pc1 := 17) rfl (pc2 := 21) rfl (fun _ => ?_) (fun q => absurd q (by decide))
    refine s_aload_n w (hb hby dinf10_17) rfl rfl (pc' := 18) rfl ?_
    refine w_privateN w hEL (y := (⟨"java/lang/AbstractStringBuilder", "inflate", "()V"⟩ : MethodName)) (C := "java/lang/StringBuilder") (a := b) (hw _ (List.mem_of_getElem? (i := 217) rfl)) (hw _ (List.mem_of_getElem? (i := 142) rfl)) rfl (hw _ (List.mem_of_getElem? (i := 219) rfl)) (hw _ (List.mem_of_getElem? (i := 218) rfl)) (hw _ (List.mem_of_getElem? (i := 71) rfl)) (hw _ (List.mem_of_getElem? (i := 221) rfl)) (by decide) Eb (rm_ifl1 G0 h b t kt cs B1) all0 all0 (argsL := []) (rest := []) (lenOf (by decide +kernel : parseMethodDescriptor "()V" = some ⟨[], none⟩) rfl) rfl rfl (hb hby dinf10_18) (by rw [hml]; rfl) (W := 0) (Nat.le_of_eq rfl) (by decide) (by decide) (by decide) (by decide) (pc' := 21) rfl fun u9 N10 T h11 w K12 P13 => ?_
    obtain ⟨rfl, P14⟩ := P13
    obtain ⟨rfl, rfl⟩ := P14
    show Run p e below _ T (mkF m 21 #[.val (.ref b), .val (.ref x)] [])
    exact w_return w hEL hs hlk hret (hb hby dinf10_21) (by decide) (by decide) ⟨rfl, rfl⟩
  · exact absurd ct1 hz
theorem dinf11_0 : decode jdk_68_method_71_code 0 = .ok (.getstatic 18, 3) := by decide +kernel
theorem dinf11_3 : decode jdk_68_method_71_code 3 = .ok (.ifCond .eq 18, 3) := by decide +kernel
theorem dinf11_6 : decode jdk_68_method_71_code 6 = .ok (.aload_n 0, 1) := by decide +kernel
theorem dinf11_7 : decode jdk_68_method_71_code 7 = .ok (.getfield 22, 3) := by decide +kernel
theorem dinf11_10 : decode jdk_68_method_71_code 10 = .ok (.aload_n 1, 1) := by decide +kernel
theorem dinf11_11 : decode jdk_68_method_71_code 11 = .ok (.invokevirtual 40, 3) := by decide +kernel
theorem dinf11_14 : decode jdk_68_method_71_code 14 = .ok (.if_icmp .eq 7, 3) := by decide +kernel
theorem dinf11_17 : decode jdk_68_method_71_code 17 = .ok (.aload_n 0, 1) := by decide +kernel
theorem dinf11_18 : decode jdk_68_method_71_code 18 = .ok (.invokevirtual 195, 3) := by decide +kernel
theorem dinf11_21 : decode jdk_68_method_71_code 21 = .ok (.return_, 1) := by decide +kernel
theorem ef_inf11 (m : MethodId) (b : Addr) (x : Addr) : entryFrame m #[.ref b, .ref x] 2 = mkF m 0 #[.val (.ref b), .val (.ref x)] [] := by first | (simp [entryFrame, mkF, argsToLocals, Value.category]; done) | rfl
set_option maxRecDepth 65536 in
set_option maxHeartbeats 40000000 in
theorem rm_inf11 {l : Launch} {Z : State} {a0 : Array Value} {zc : Int32} {fm : Value} (G : Gl Z a0 zc fm) (h : Heap) (b : Addr) (x : Addr) (t tx : Addr) (kt kx : ClassId) (cs ds : List Int32) (B0 : Sb1 Z h b t kt cs) (X0 : S1 Z h x tx kx ds) :
    Met l Z consts_1 (⟨"java/lang/AbstractStringBuilder", "inflateIfNeededFor", "(Ljava/lang/String;)V"⟩ : MethodName) jdk_68_method_71_code 2 none ({ frames := 1, cells := 0, slots := 0, locals := 13 } : Room) #[.ref b, .ref x] h [] [] (fun v h' => v = none ∧ h = h') := by
  have G0 := G
  obtain ⟨hw, hEL, SC, hz, SF, hfm, SA, SH, SL⟩ := G
  have hw1 : ∀ d ∈ StrChars.Road.words, d.before a0 Z = true := fun d q => hw d (sub1 d q)
  have hwA : ∀ d ∈ Bundle.stringAtoms, d.before a0 Z = true := fun d q => hw d (subA d q)
  refine Met.of (plainFor_of_name pn_4) ?_
  intro p e s m below meth c T hnm hret hlk hby hml hs w
  have hZ0 := w.old
  refine Run.cast (ef_inf11 m b x) ?_
  have B1 := B0
  obtain ⟨Eb, Vb, Cb, Nb, Mb, At, hcs, hcl⟩ := B0
  have X1 := X0
  have Sx := X0.str
  obtain ⟨Ex, Vx, Cx, Ax, hds, hdl⟩ := X0
  refine w_getS w (hw _ (List.mem_of_getElem? (i := 74) rfl)) Via.refl (SC.ext w.old) (hb hby dinf11_0) (pc' := 3) rfl fun T w => ?_
  refine s_if_eq w (hb hby dinf11_3) (by decide) (pc1 := 6) rfl (pc2 := 21) rfl (fun ct1 => ?_) (fun ct1 => ?_)
  · skip
    refine s_aload_n w (hb hby dinf11_6) rfl rfl (pc' := 7) rfl ?_
    refine w_getF w (hw _ (List.mem_of_getElem? (i := 77) rfl)) Via.refl Cb (hb hby dinf11_7) (pc' := 10) rfl fun T w => ?_
    refine s_aload_n w (hb hby dinf11_10) rfl rfl (pc' := 11) rfl ?_
    refine w_virtualN w hEL (y := (⟨"java/lang/String", "coder", "()B"⟩ : MethodName)) (y' := (⟨"java/lang/String", "coder", "()B"⟩ : MethodName)) (C := "java/lang/String") (a := x) (hw _ (List.mem_of_getElem? (i := 116) rfl)) (hw _ (List.mem_of_getElem? (i := 95) rfl)) (hw _ (List.mem_of_getElem? (i := 97) rfl)) (hw _ (List.mem_of_getElem? (i := 97) rfl)) (hw _ (List.mem_of_getElem? (i := 96) rfl)) (hw _ (List.mem_of_getElem? (i := 7) rfl)) (hw _ (List.mem_of_getElem? (i := 98) rfl)) (by decide) Ex (rm_cdr1 G0 h x Cx) all0 all0 (argsL := []) (rest := [.int 1]) (lenOf (by decide +kernel : parseMethodDescriptor "()B" = some ⟨[], (some .byte)⟩) rfl) rfl rfl (hb hby dinf11_11) (by rw [hml]; rfl) (W := 1) (Nat.le_of_eq rfl) (by decide) (by decide) (by decide) (by decide) (pc' := 14) rfl fun u2 N3 T h4 w K5 P6 => ?_
    obtain ⟨rfl, P7⟩ := P6
    obtain ⟨rfl, rfl⟩ := P7
    show Run p e below _ T (mkF m 14 #[.val (.ref b), .val (.ref x)] [.int 1, .int 1])
    refine s_icmp_eq w (hb hby dinf11_14) (by decide) (pc1 := 17) rfl (pc2 := 21) rfl (fun q => absurd q (by decide)) (fun _ => ?_)
    exact w_return w hEL hs hlk hret (hb hby dinf11_21) (by decide) (by decide) ⟨rfl, rfl⟩
  · exact absurd ct1 hz
theorem dgby00_0 : decode jdk_42_method_147_code 0 = .ok (.aload_n 0, 1) := by decide +kernel
theorem dgby00_1 : decode jdk_42_method_147_code 1 = .ok (.invokevirtual 335, 3) := by decide +kernel
theorem dgby00_4 : decode jdk_42_method_147_code 4 = .ok (.iload_n 3, 1) := by decide +kernel
theorem dgby00_5 : decode jdk_42_method_147_code 5 = .ok (.if_icmp .ne 23, 3) := by decide +kernel
theorem dgby00_8 : decode jdk_42_method_147_code 8 = .ok (.aload_n 0, 1) := by decide +kernel
theorem dgby00_9 : decode jdk_42_method_147_code 9 = .ok (.getfield 9, 3) := by decide +kernel
theorem dgby00_12 : decode jdk_42_method_147_code 12 = .ok (.iconst 0, 1) := by decide +kernel
theorem dgby00_13 : decode jdk_42_method_147_code 13 = .ok (.aload_n 1, 1) := by decide +kernel
theorem dgby00_14 : decode jdk_42_method_147_code 14 = .ok (.iload_n 2, 1) := by decide +kernel
theorem dgby00_15 : decode jdk_42_method_147_code 15 = .ok (.iload_n 3, 1) := by decide +kernel
theorem dgby00_16 : decode jdk_42_method_147_code 16 = .ok (.ishl, 1) := by decide +kernel
theorem dgby00_17 : decode jdk_42_method_147_code 17 = .ok (.aload_n 0, 1) := by decide +kernel
theorem dgby00_18 : decode jdk_42_method_147_code 18 = .ok (.getfield 9, 3) := by decide +kernel
theorem dgby00_21 : decode jdk_42_method_147_code 21 = .ok (.arraylength, 1) := by decide +kernel
theorem dgby00_22 : decode jdk_42_method_147_code 22 = .ok (.invokestatic 212, 3) := by decide +kernel
theorem dgby00_25 : decode jdk_42_method_147_code 25 = .ok (.goto 18, 3) := by decide +kernel
theorem dgby00_28 : decode jdk_42_method_147_code 28 = .ok (.aload_n 0, 1) := by decide +kernel
theorem dgby00_29 : decode jdk_42_method_147_code 29 = .ok (.getfield 9, 3) := by decide +kernel
theorem dgby00_32 : decode jdk_42_method_147_code 32 = .ok (.iconst 0, 1) := by decide +kernel
theorem dgby00_33 : decode jdk_42_method_147_code 33 = .ok (.aload_n 1, 1) := by decide +kernel
theorem dgby00_34 : decode jdk_42_method_147_code 34 = .ok (.iload_n 2, 1) := by decide +kernel
theorem dgby00_35 : decode jdk_42_method_147_code 35 = .ok (.aload_n 0, 1) := by decide +kernel
theorem dgby00_36 : decode jdk_42_method_147_code 36 = .ok (.getfield 9, 3) := by decide +kernel
theorem dgby00_39 : decode jdk_42_method_147_code 39 = .ok (.arraylength, 1) := by decide +kernel
theorem dgby00_40 : decode jdk_42_method_147_code 40 = .ok (.invokestatic 106, 3) := by decide +kernel
theorem dgby00_43 : decode jdk_42_method_147_code 43 = .ok (.return_, 1) := by decide +kernel
theorem ef_gby00 (m : MethodId) (x : Addr) (t : Addr) (I0 : Int32) : entryFrame m #[.ref x, .ref t, .int I0, .int 0] 4 = mkF m 0 #[.val (.ref x), .val (.ref t), .val (.int I0), .val (.int 0)] [] := by first | (simp [entryFrame, mkF, argsToLocals, Value.category]; done) | rfl
set_option maxRecDepth 65536 in
set_option maxHeartbeats 40000000 in
theorem rm_gby00 {l : Launch} {Z : State} {a0 : Array Value} {zc : Int32} {fm : Value} (G : Gl Z a0 zc fm) (h : Heap) (x : Addr) (t : Addr) (I0 : Int32) (tx : Addr) (kt kx : ClassId) (i : Nat) (ds : List Int32) (vd : List Value) (hI : I0 = Int32.ofNat i) (X0 : S0 Z h x tx kx ds) (At : Arv Z h t kt .byte (Int32.ofNat 16) vd (.int 0)) (hvl : vd.length = 16) (hic : i + ds.length ≤ 16) (hnt : tx ≠ t) :
    Met l Z consts_1 (⟨"java/lang/String", "getBytes", "([BIB)V"⟩ : MethodName) jdk_42_method_147_code 4 none ({ frames := 1, cells := 0, slots := 0, locals := 40 } : Room) #[.ref x, .ref t, .int I0, .int 0] h [t] [t] (fun v h' => v = none ∧ Arv Z h' t kt .byte (Int32.ofNat 16) (vd.take i ++ low ds ++ vd.drop (i + ds.length)) (.int 0)) := by
  have G0 := G
  obtain ⟨hw, hEL, SC, hz, SF, hfm, SA, SH, SL⟩ := G
  have hw1 : ∀ d ∈ StrChars.Road.words, d.before a0 Z = true := fun d q => hw d (sub1 d q)
  have hwA : ∀ d ∈ Bundle.stringAtoms, d.before a0 Z = true := fun d q => hw d (subA d q)
  refine Met.of (plainFor_of_name pn_1) ?_
  intro p e s m below meth c T hnm hret hlk hby hml hs w
  have hZ0 := w.old
  refine Run.cast (ef_gby00 m x t I0) ?_
  have X1 := X0
  have Sx := X0.str
  obtain ⟨Ex, Vx, Cx, Ax, hds, hdl⟩ := X0
  refine s_aload_n w (hb hby dgby00_0) rfl rfl (pc' := 1) rfl ?_
  refine w_virtualN w hEL (y := (⟨"java/lang/String", "coder", "()B"⟩ : MethodName)) (y' := (⟨"java/lang/String", "coder", "()B"⟩ : MethodName)) (C := "java/lang/String") (a := x) (hw _ (List.mem_of_getElem? (i := 94) rfl)) (hw _ (List.mem_of_getElem? (i := 95) rfl)) (hw _ (List.mem_of_getElem? (i := 97) rfl)) (hw _ (List.mem_of_getElem? (i := 97) rfl)) (hw _ (List.mem_of_getElem? (i := 96) rfl)) (hw _ (List.mem_of_getElem? (i := 7) rfl)) (hw _ (List.mem_of_getElem? (i := 98) rfl)) (by decide) Ex (rm_cdr0 G0 h x Cx) all0 all0 (argsL := []) (rest := []) (lenOf (by decide +kernel : parseMethodDescriptor "()B" = some ⟨[], (some .byte)⟩) rfl) rfl rfl (hb hby dgby00_1) (by rw [hml]; rfl) (W := 0) (Nat.le_of_eq rfl) (by decide) (by decide) (by decide) (by decide) (pc' := 4) rfl fun u1 N2 T h3 w K4 P5 => ?_
  obtain ⟨rfl, P6⟩ := P5
  obtain ⟨rfl, rfl⟩ := P6
  show Run p e below _ T (mkF m 4 #[.val (.ref x), .val (.ref t), .val (.int I0), .val (.int 0)] [.int 0])
  refine s_iload_n w (hb hby dgby00_4) rfl (pc' := 5) rfl ?_
  refine s_icmp_ne w (hb hby dgby00_5) (by decide) (pc1 := 8) rfl (pc2 := 28) rfl (fun _ => ?_) (fun q => absurd q (by decide))
  refine s_aload_n w (hb hby dgby00_8) rfl rfl (pc' := 9) rfl ?_
  refine w_getF w (hw _ (List.mem_of_getElem? (i := 33) rfl)) Via.refl Vx (hb hby dgby00_9) (pc' := 12) rfl fun T w => ?_
  refine s_iconst w (hb hby dgby00_12) (v := 0) rfl (pc' := 13) rfl ?_
  refine s_aload_n w (hb hby dgby00_13) rfl rfl (pc' := 14) rfl ?_
  refine s_iload_n w (hb hby dgby00_14) rfl (pc' := 15) rfl ?_
  refine s_iload_n w (hb hby dgby00_15) rfl (pc' := 16) rfl ?_
  refine s_ishl w (hb hby dgby00_16) (pc' := 17) rfl ?_
  refine s_aload_n w (hb hby dgby00_17) rfl rfl (pc' := 18) rfl ?_
  refine w_getF w (hw _ (List.mem_of_getElem? (i := 33) rfl)) Via.refl Vx (hb hby dgby00_18) (pc' := 21) rfl fun T w => ?_
  refine w_len w Ax (hb hby dgby00_21) (pc' := 22) rfl ?_
  rw [shl0]
  refine w_copyB w (hw _ (List.mem_of_getElem? (i := 122) rfl)) (hw _ (List.mem_of_getElem? (i := 125) rfl)) (hw _ (List.mem_of_getElem? (i := 123) rfl)) (hw _ (List.mem_of_getElem? (i := 124) rfl)) (is := 0) (id := i) (n := ds.length) (us := low ds) Ax At rfl hI rfl (by omega) (by omega) (by omega) (by rw [ofNat_nat (by omega)]; omega) (by rw [ofNat_nat (by omega)]; omega) (range_low ds) (by omega) (List.mem_of_getElem? (i := 0) rfl) (Or.inl (List.mem_of_getElem? (i := 0) rfl)) rfl (hb hby dgby00_22) (by rw [hml]; rfl) (by decide) (W := 0) (Nat.le_of_eq rfl) (by decide) (pc' := 25) rfl fun T h8 w K9 F10 => ?_
  refine s_goto w (hb hby dgby00_25) (by decide) (pc' := 43) rfl ?_
  exact w_return w hEL hs hlk hret (hb hby dgby00_43) (by decide) (by decide) ⟨rfl, F10⟩
theorem dgby11_0 : decode jdk_42_method_147_code 0 = .ok (.aload_n 0, 1) := by decide +kernel
theorem dgby11_1 : decode jdk_42_method_147_code 1 = .ok (.invokevirtual 335, 3) := by decide +kernel
theorem dgby11_4 : decode jdk_42_method_147_code 4 = .ok (.iload_n 3, 1) := by decide +kernel
theorem dgby11_5 : decode jdk_42_method_147_code 5 = .ok (.if_icmp .ne 23, 3) := by decide +kernel
theorem dgby11_8 : decode jdk_42_method_147_code 8 = .ok (.aload_n 0, 1) := by decide +kernel
theorem dgby11_9 : decode jdk_42_method_147_code 9 = .ok (.getfield 9, 3) := by decide +kernel
theorem dgby11_12 : decode jdk_42_method_147_code 12 = .ok (.iconst 0, 1) := by decide +kernel
theorem dgby11_13 : decode jdk_42_method_147_code 13 = .ok (.aload_n 1, 1) := by decide +kernel
theorem dgby11_14 : decode jdk_42_method_147_code 14 = .ok (.iload_n 2, 1) := by decide +kernel
theorem dgby11_15 : decode jdk_42_method_147_code 15 = .ok (.iload_n 3, 1) := by decide +kernel
theorem dgby11_16 : decode jdk_42_method_147_code 16 = .ok (.ishl, 1) := by decide +kernel
theorem dgby11_17 : decode jdk_42_method_147_code 17 = .ok (.aload_n 0, 1) := by decide +kernel
theorem dgby11_18 : decode jdk_42_method_147_code 18 = .ok (.getfield 9, 3) := by decide +kernel
theorem dgby11_21 : decode jdk_42_method_147_code 21 = .ok (.arraylength, 1) := by decide +kernel
theorem dgby11_22 : decode jdk_42_method_147_code 22 = .ok (.invokestatic 212, 3) := by decide +kernel
theorem dgby11_25 : decode jdk_42_method_147_code 25 = .ok (.goto 18, 3) := by decide +kernel
theorem dgby11_28 : decode jdk_42_method_147_code 28 = .ok (.aload_n 0, 1) := by decide +kernel
theorem dgby11_29 : decode jdk_42_method_147_code 29 = .ok (.getfield 9, 3) := by decide +kernel
theorem dgby11_32 : decode jdk_42_method_147_code 32 = .ok (.iconst 0, 1) := by decide +kernel
theorem dgby11_33 : decode jdk_42_method_147_code 33 = .ok (.aload_n 1, 1) := by decide +kernel
theorem dgby11_34 : decode jdk_42_method_147_code 34 = .ok (.iload_n 2, 1) := by decide +kernel
theorem dgby11_35 : decode jdk_42_method_147_code 35 = .ok (.aload_n 0, 1) := by decide +kernel
theorem dgby11_36 : decode jdk_42_method_147_code 36 = .ok (.getfield 9, 3) := by decide +kernel
theorem dgby11_39 : decode jdk_42_method_147_code 39 = .ok (.arraylength, 1) := by decide +kernel
theorem dgby11_40 : decode jdk_42_method_147_code 40 = .ok (.invokestatic 106, 3) := by decide +kernel
theorem dgby11_43 : decode jdk_42_method_147_code 43 = .ok (.return_, 1) := by decide +kernel
theorem ef_gby11 (m : MethodId) (x : Addr) (t : Addr) (I0 : Int32) : entryFrame m #[.ref x, .ref t, .int I0, .int 1] 4 = mkF m 0 #[.val (.ref x), .val (.ref t), .val (.int I0), .val (.int 1)] [] := by first | (simp [entryFrame, mkF, argsToLocals, Value.category]; done) | rfl
set_option maxRecDepth 65536 in
set_option maxHeartbeats 40000000 in
theorem rm_gby11 {l : Launch} {Z : State} {a0 : Array Value} {zc : Int32} {fm : Value} (G : Gl Z a0 zc fm) (h : Heap) (x : Addr) (t : Addr) (I0 : Int32) (tx : Addr) (kt kx : ClassId) (i : Nat) (ds : List Int32) (vd : List Value) (hI : I0 = Int32.ofNat i) (X0 : S1 Z h x tx kx ds) (At : Arv Z h t kt .byte (Int32.ofNat (2 * 16)) vd (.int 0)) (hvl : vd.length = 2 * 16) (hic : i + ds.length ≤ 16) (hnt : tx ≠ t) :
    Met l Z consts_1 (⟨"java/lang/String", "getBytes", "([BIB)V"⟩ : MethodName) jdk_42_method_147_code 4 none ({ frames := 1, cells := 0, slots := 0, locals := 40 } : Room) #[.ref x, .ref t, .int I0, .int 1] h [t] [t] (fun v h' => v = none ∧ Arv Z h' t kt .byte (Int32.ofNat (2 * 16)) (vd.take (2 * i) ++ wideBytes ds ++ vd.drop (2 * (i + ds.length))) (.int 0)) := by
  have G0 := G
  obtain ⟨hw, hEL, SC, hz, SF, hfm, SA, SH, SL⟩ := G
  have hw1 : ∀ d ∈ StrChars.Road.words, d.before a0 Z = true := fun d q => hw d (sub1 d q)
  have hwA : ∀ d ∈ Bundle.stringAtoms, d.before a0 Z = true := fun d q => hw d (subA d q)
  refine Met.of (plainFor_of_name pn_1) ?_
  intro p e s m below meth c T hnm hret hlk hby hml hs w
  have hZ0 := w.old
  refine Run.cast (ef_gby11 m x t I0) ?_
  have X1 := X0
  have Sx := X0.str
  obtain ⟨Ex, Vx, Cx, Ax, hds, hdl⟩ := X0
  refine s_aload_n w (hb hby dgby11_0) rfl rfl (pc' := 1) rfl ?_
  refine w_virtualN w hEL (y := (⟨"java/lang/String", "coder", "()B"⟩ : MethodName)) (y' := (⟨"java/lang/String", "coder", "()B"⟩ : MethodName)) (C := "java/lang/String") (a := x) (hw _ (List.mem_of_getElem? (i := 94) rfl)) (hw _ (List.mem_of_getElem? (i := 95) rfl)) (hw _ (List.mem_of_getElem? (i := 97) rfl)) (hw _ (List.mem_of_getElem? (i := 97) rfl)) (hw _ (List.mem_of_getElem? (i := 96) rfl)) (hw _ (List.mem_of_getElem? (i := 7) rfl)) (hw _ (List.mem_of_getElem? (i := 98) rfl)) (by decide) Ex (rm_cdr1 G0 h x Cx) all0 all0 (argsL := []) (rest := []) (lenOf (by decide +kernel : parseMethodDescriptor "()B" = some ⟨[], (some .byte)⟩) rfl) rfl rfl (hb hby dgby11_1) (by rw [hml]; rfl) (W := 0) (Nat.le_of_eq rfl) (by decide) (by decide) (by decide) (by decide) (pc' := 4) rfl fun u1 N2 T h3 w K4 P5 => ?_
  obtain ⟨rfl, P6⟩ := P5
  obtain ⟨rfl, rfl⟩ := P6
  show Run p e below _ T (mkF m 4 #[.val (.ref x), .val (.ref t), .val (.int I0), .val (.int 1)] [.int 1])
  refine s_iload_n w (hb hby dgby11_4) rfl (pc' := 5) rfl ?_
  refine s_icmp_ne w (hb hby dgby11_5) (by decide) (pc1 := 8) rfl (pc2 := 28) rfl (fun _ => ?_) (fun q => absurd q (by decide))
  refine s_aload_n w (hb hby dgby11_8) rfl rfl (pc' := 9) rfl ?_
  refine w_getF w (hw _ (List.mem_of_getElem? (i := 33) rfl)) Via.refl Vx (hb hby dgby11_9) (pc' := 12) rfl fun T w => ?_
  refine s_iconst w (hb hby dgby11_12) (v := 0) rfl (pc' := 13) rfl ?_
  refine s_aload_n w (hb hby dgby11_13) rfl rfl (pc' := 14) rfl ?_
  refine s_iload_n w (hb hby dgby11_14) rfl (pc' := 15) rfl ?_
  refine s_iload_n w (hb hby dgby11_15) rfl (pc' := 16) rfl ?_
  refine s_ishl w (hb hby dgby11_16) (pc' := 17) rfl ?_
  refine s_aload_n w (hb hby dgby11_17) rfl rfl (pc' := 18) rfl ?_
  refine w_getF w (hw _ (List.mem_of_getElem? (i := 33) rfl)) Via.refl Vx (hb hby dgby11_18) (pc' := 21) rfl fun T w => ?_
  refine w_len w Ax (hb hby dgby11_21) (pc' := 22) rfl ?_
  rw [hI, ofN_shl (by omega)]
  refine w_copyB w (hw _ (List.mem_of_getElem? (i := 122) rfl)) (hw _ (List.mem_of_getElem? (i := 125) rfl)) (hw _ (List.mem_of_getElem? (i := 123) rfl)) (hw _ (List.mem_of_getElem? (i := 124) rfl)) (is := 0) (id := (2 * i)) (n := (2 * ds.length)) (us := (wideBytes ds)) Ax At rfl rfl rfl (by omega) (by omega) (by omega) (by rw [ofNat_nat (by omega)]; omega) (by rw [ofNat_nat (by omega)]; omega) (wrange ds) (by omega) (List.mem_of_getElem? (i := 0) rfl) (Or.inl (List.mem_of_getElem? (i := 0) rfl)) rfl (hb hby dgby11_22) (by rw [hml]; rfl) (by decide) (W := 0) (Nat.le_of_eq rfl) (by decide) (pc' := 25) rfl fun T h8 w K9 F10 => ?_
  rw [← Nat.mul_add] at F10
  refine s_goto w (hb hby dgby11_25) (by decide) (pc' := 43) rfl ?_
  exact w_return w hEL hs hlk hret (hb hby dgby11_43) (by decide) (by decide) ⟨rfl, F10⟩
theorem dgby10_0 : decode jdk_42_method_147_code 0 = .ok (.aload_n 0, 1) := by decide +kernel
theorem dgby10_1 : decode jdk_42_method_147_code 1 = .ok (.invokevirtual 335, 3) := by decide +kernel
theorem dgby10_4 : decode jdk_42_method_147_code 4 = .ok (.iload_n 3, 1) := by decide +kernel
theorem dgby10_5 : decode jdk_42_method_147_code 5 = .ok (.if_icmp .ne 23, 3) := by decide +kernel
theorem dgby10_8 : decode jdk_42_method_147_code 8 = .ok (.aload_n 0, 1) := by decide +kernel
theorem dgby10_9 : decode jdk_42_method_147_code 9 = .ok (.getfield 9, 3) := by decide +kernel
theorem dgby10_12 : decode jdk_42_method_147_code 12 = .ok (.iconst 0, 1) := by decide +kernel
theorem dgby10_13 : decode jdk_42_method_147_code 13 = .ok (.aload_n 1, 1) := by decide +kernel
theorem dgby10_14 : decode jdk_42_method_147_code 14 = .ok (.iload_n 2, 1) := by decide +kernel
theorem dgby10_15 : decode jdk_42_method_147_code 15 = .ok (.iload_n 3, 1) := by decide +kernel
theorem dgby10_16 : decode jdk_42_method_147_code 16 = .ok (.ishl, 1) := by decide +kernel
theorem dgby10_17 : decode jdk_42_method_147_code 17 = .ok (.aload_n 0, 1) := by decide +kernel
theorem dgby10_18 : decode jdk_42_method_147_code 18 = .ok (.getfield 9, 3) := by decide +kernel
theorem dgby10_21 : decode jdk_42_method_147_code 21 = .ok (.arraylength, 1) := by decide +kernel
theorem dgby10_22 : decode jdk_42_method_147_code 22 = .ok (.invokestatic 212, 3) := by decide +kernel
theorem dgby10_25 : decode jdk_42_method_147_code 25 = .ok (.goto 18, 3) := by decide +kernel
theorem dgby10_28 : decode jdk_42_method_147_code 28 = .ok (.aload_n 0, 1) := by decide +kernel
theorem dgby10_29 : decode jdk_42_method_147_code 29 = .ok (.getfield 9, 3) := by decide +kernel
theorem dgby10_32 : decode jdk_42_method_147_code 32 = .ok (.iconst 0, 1) := by decide +kernel
theorem dgby10_33 : decode jdk_42_method_147_code 33 = .ok (.aload_n 1, 1) := by decide +kernel
theorem dgby10_34 : decode jdk_42_method_147_code 34 = .ok (.iload_n 2, 1) := by decide +kernel
theorem dgby10_35 : decode jdk_42_method_147_code 35 = .ok (.aload_n 0, 1) := by decide +kernel
theorem dgby10_36 : decode jdk_42_method_147_code 36 = .ok (.getfield 9, 3) := by decide +kernel
theorem dgby10_39 : decode jdk_42_method_147_code 39 = .ok (.arraylength, 1) := by decide +kernel
theorem dgby10_40 : decode jdk_42_method_147_code 40 = .ok (.invokestatic 106, 3) := by decide +kernel
theorem dgby10_43 : decode jdk_42_method_147_code 43 = .ok (.return_, 1) := by decide +kernel
theorem ef_gby10 (m : MethodId) (x : Addr) (t : Addr) (I0 : Int32) : entryFrame m #[.ref x, .ref t, .int I0, .int 1] 4 = mkF m 0 #[.val (.ref x), .val (.ref t), .val (.int I0), .val (.int 1)] [] := by first | (simp [entryFrame, mkF, argsToLocals, Value.category]; done) | rfl
set_option maxRecDepth 65536 in
set_option maxHeartbeats 40000000 in
theorem rm_gby10 {l : Launch} {Z : State} {a0 : Array Value} {zc : Int32} {fm : Value} (G : Gl Z a0 zc fm) (h : Heap) (x : Addr) (t : Addr) (I0 : Int32) (tx : Addr) (kt kx : ClassId) (i : Nat) (ds : List Int32) (vd : List Value) (hI : I0 = Int32.ofNat i) (X0 : S0 Z h x tx kx ds) (At : Arv Z h t kt .byte (Int32.ofNat (2 * 16)) vd (.int 0)) (hvl : vd.length = 2 * 16) (hic : i + ds.length ≤ 16) (hnt : tx ≠ t) :
    Met l Z consts_1 (⟨"java/lang/String", "getBytes", "([BIB)V"⟩ : MethodName) jdk_42_method_147_code 4 none ({ frames := 5, cells := 0, slots := 0, locals := 76 } : Room) #[.ref x, .ref t, .int I0, .int 1] h [t] [t] (fun v h' => v = none ∧ Arv Z h' t kt .byte (Int32.ofNat (2 * 16)) (vd.take (2 * i) ++ wideBytes ds ++ vd.drop (2 * (i + ds.length))) (.int 0)) := by
  have G0 := G
  obtain ⟨hw, hEL, SC, hz, SF, hfm, SA, SH, SL⟩ := G
  have hw1 : ∀ d ∈ StrChars.Road.words, d.before a0 Z = true := fun d q => hw d (sub1 d q)
  have hwA : ∀ d ∈ Bundle.stringAtoms, d.before a0 Z = true := fun d q => hw d (subA d q)
  refine Met.of (plainFor_of_name pn_1) ?_
  intro p e s m below meth c T hnm hret hlk hby hml hs w
  have hZ0 := w.old
  refine Run.cast (ef_gby10 m x t I0) ?_
  have X1 := X0
  have Sx := X0.str
  obtain ⟨Ex, Vx, Cx, Ax, hds, hdl⟩ := X0
  refine s_aload_n w (hb hby dgby10_0) rfl rfl (pc' := 1) rfl ?_
  refine w_virtualN w hEL (y := (⟨"java/lang/String", "coder", "()B"⟩ : MethodName)) (y' := (⟨"java/lang/String", "coder", "()B"⟩ : MethodName)) (C := "java/lang/String") (a := x) (hw _ (List.mem_of_getElem? (i := 94) rfl)) (hw _ (List.mem_of_getElem? (i := 95) rfl)) (hw _ (List.mem_of_getElem? (i := 97) rfl)) (hw _ (List.mem_of_getElem? (i := 97) rfl)) (hw _ (List.mem_of_getElem? (i := 96) rfl)) (hw _ (List.mem_of_getElem? (i := 7) rfl)) (hw _ (List.mem_of_getElem? (i := 98) rfl)) (by decide) Ex (rm_cdr0 G0 h x Cx) all0 all0 (argsL := []) (rest := []) (lenOf (by decide +kernel : parseMethodDescriptor "()B" = some ⟨[], (some .byte)⟩) rfl) rfl rfl (hb hby dgby10_1) (by rw [hml]; rfl) (W := 0) (Nat.le_of_eq rfl) (by decide) (by decide) (by decide) (by decide) (pc' := 4) rfl fun u1 N2 T h3 w K4 P5 => ?_
  obtain ⟨rfl, P6⟩ := P5
  obtain ⟨rfl, rfl⟩ := P6
  show Run p e below _ T (mkF m 4 #[.val (.ref x), .val (.ref t), .val (.int I0), .val (.int 1)] [.int 0])
  refine s_iload_n w (hb hby dgby10_4) rfl (pc' := 5) rfl ?_
  refine s_icmp_ne w (hb hby dgby10_5) (by decide) (pc1 := 8) rfl (pc2 := 28) rfl (fun q => absurd q (by decide)) (fun _ => ?_)
  refine s_aload_n w (hb hby dgby10_28) rfl rfl (pc' := 29) rfl ?_
  refine w_getF w (hw _ (List.mem_of_getElem? (i := 33) rfl)) Via.refl Vx (hb hby dgby10_29) (pc' := 32) rfl fun T w => ?_
  refine s_iconst w (hb hby dgby10_32) (v := 0) rfl (pc' := 33) rfl ?_
  refine s_aload_n w (hb hby dgby10_33) rfl rfl (pc' := 34) rfl ?_
  refine s_iload_n w (hb hby dgby10_34) rfl (pc' := 35) rfl ?_
  refine s_aload_n w (hb hby dgby10_35) rfl rfl (pc' := 36) rfl ?_
  refine w_getF w (hw _ (List.mem_of_getElem? (i := 33) rfl)) Via.refl Vx (hb hby dgby10_36) (pc' := 39) rfl fun T w => ?_
  refine w_len w Ax (hb hby dgby10_39) (pc' := 40) rfl ?_
  refine w_staticN w hEL (y := (⟨"java/lang/StringLatin1", "inflate", "([BI[BII)V"⟩ : MethodName)) (hw _ (List.mem_of_getElem? (i := 248) rfl)) (hw _ (List.mem_of_getElem? (i := 231) rfl)) (hw _ (List.mem_of_getElem? (i := 188) rfl)) (hw _ (List.mem_of_getElem? (i := 232) rfl)) (by decide) (rm_lif G0 h tx t I0 _ i kx kt _ _ vd ds hI rfl Ax (by rw [ofNat_nat (by omega)]; omega) (fun j hj => low_get hj) hds At hvl hic hnt) (allS (List.mem_of_getElem? (i := 0) rfl) all0) (allS (Or.inl (List.mem_of_getElem? (i := 0) rfl)) all0) (argsL := [.ref tx, .int 0, .ref t, .int I0, .int (Int32.ofNat ds.length)]) (rest := []) (lenOf (by decide +kernel : parseMethodDescriptor "([BI[BII)V" = some ⟨[(.array .byte), .int, (.array .byte), .int, .int], none⟩) rfl) rfl rfl (hb hby dgby10_40) (by rw [hml]; rfl) (W := 0) (Nat.le_of_eq rfl) (by decide) (by decide) (by decide) (by decide) (pc' := 43) rfl fun u8 N9 T h10 w K11 P12 => ?_
  obtain ⟨rfl, P13⟩ := P12
  obtain ⟨rfl, P9⟩ := P13
  show Run p e below _ T (mkF m 43 #[.val (.ref x), .val (.ref t), .val (.int I0), .val (.int 1)] [])
  exact w_return w hEL hs hlk hret (hb hby dgby10_43) (by decide) (by decide) ⟨rfl, P9⟩
theorem dpsa00_0 : decode jdk_68_method_73_code 0 = .ok (.aload_n 0, 1) := by decide +kernel
theorem dpsa00_1 : decode jdk_68_method_73_code 1 = .ok (.aload_n 2, 1) := by decide +kernel
theorem dpsa00_2 : decode jdk_68_method_73_code 2 = .ok (.invokevirtual 397, 3) := by decide +kernel
theorem dpsa00_5 : decode jdk_68_method_73_code 5 = .ok (.aload_n 2, 1) := by decide +kernel
theorem dpsa00_6 : decode jdk_68_method_73_code 6 = .ok (.aload_n 0, 1) := by decide +kernel
theorem dpsa00_7 : decode jdk_68_method_73_code 7 = .ok (.getfield 15, 3) := by decide +kernel
theorem dpsa00_10 : decode jdk_68_method_73_code 10 = .ok (.iload_n 1, 1) := by decide +kernel
theorem dpsa00_11 : decode jdk_68_method_73_code 11 = .ok (.aload_n 0, 1) := by decide +kernel
theorem dpsa00_12 : decode jdk_68_method_73_code 12 = .ok (.getfield 22, 3) := by decide +kernel
theorem dpsa00_15 : decode jdk_68_method_73_code 15 = .ok (.invokevirtual 399, 3) := by decide +kernel
theorem dpsa00_18 : decode jdk_68_method_73_code 18 = .ok (.return_, 1) := by decide +kernel
theorem ef_psa00 (m : MethodId) (b : Addr) (I0 : Int32) (x : Addr) : entryFrame m #[.ref b, .int I0, .ref x] 3 = mkF m 0 #[.val (.ref b), .val (.int I0), .val (.ref x)] [] := by first | (simp [entryFrame, mkF, argsToLocals, Value.category]; done) | rfl
set_option maxRecDepth 65536 in
set_option maxHeartbeats 40000000 in
theorem rm_psa00 {l : Launch} {Z : State} {a0 : Array Value} {zc : Int32} {fm : Value} (G : Gl Z a0 zc fm) (h : Heap) (b : Addr) (I0 : Int32) (x : Addr) (t tx : Addr) (kt kx : ClassId) (cs ds : List Int32) (B0 : Sb0 Z h b t kt cs) (X0 : S0 Z h x tx kx ds) (hI : I0 = Int32.ofNat cs.length) (hfit : cs.length + ds.length ≤ 16) (hnt : tx ≠ t) :
    Met l Z consts_1 (⟨"java/lang/AbstractStringBuilder", "putStringAt", "(ILjava/lang/String;)V"⟩ : MethodName) jdk_68_method_73_code 3 none ({ frames := 2, cells := 0, slots := 0, locals := 55 } : Room) #[.ref b, .int I0, .ref x] h [t] [t] (fun v h' => v = none ∧ Arv Z h' t kt .byte (Int32.ofNat 16) (room_ (cs ++ ds) 16) (.int 0)) := by
  have G0 := G
  obtain ⟨hw, hEL, SC, hz, SF, hfm, SA, SH, SL⟩ := G
  have hw1 : ∀ d ∈ StrChars.Road.words, d.before a0 Z = true := fun d q => hw d (sub1 d q)
  have hwA : ∀ d ∈ Bundle.stringAtoms, d.before a0 Z = true := fun d q => hw d (subA d q)
  refine Met.of (plainFor_of_name pn_4) ?_
  intro p e s m below meth c T hnm hret hlk hby hml hs w
  have hZ0 := w.old
  refine Run.cast (ef_psa00 m b I0 x) ?_
  have B1 := B0
  obtain ⟨Eb, Vb, Cb, Nb, Mb, At, hcs, hcl⟩ := B0
  have X1 := X0
  have Sx := X0.str
  obtain ⟨Ex, Vx, Cx, Ax, hds, hdl⟩ := X0
  refine s_aload_n w (hb hby dpsa00_0) rfl rfl (pc' := 1) rfl ?_
  refine s_aload_n w (hb hby dpsa00_1) rfl rfl (pc' := 2) rfl ?_
  refine w_privateN w hEL (y := (⟨"java/lang/AbstractStringBuilder", "inflateIfNeededFor", "(Ljava/lang/String;)V"⟩ : MethodName)) (C := "java/lang/StringBuilder") (a := b) (hw _ (List.mem_of_getElem? (i := 111) rfl)) (hw _ (List.mem_of_getElem? (i := 142) rfl)) rfl (hw _ (List.mem_of_getElem? (i := 113) rfl)) (hw _ (List.mem_of_getElem? (i := 112) rfl)) (hw _ (List.mem_of_getElem? (i := 71) rfl)) (hw _ (List.mem_of_getElem? (i := 115) rfl)) (by decide) Eb (rm_inf00 G0 h b x t tx kt kx cs ds B1 X1) all0 all0 (argsL := [.ref x]) (rest := []) (lenOf (by decide +kernel : parseMethodDescriptor "(Ljava/lang/String;)V" = some ⟨[(.object "java/lang/String")], none⟩) rfl) rfl rfl (hb hby dpsa00_2) (by rw [hml]; rfl) (W := 0) (Nat.le_of_eq rfl) (by decide) (by decide) (by decide) (by decide) (pc' := 5) rfl fun u1 N2 T h3 w K4 P5 => ?_
  obtain ⟨rfl, P6⟩ := P5
  obtain ⟨rfl, rfl⟩ := P6
  show Run p e below _ T (mkF m 5 #[.val (.ref b), .val (.int I0), .val (.ref x)] [])
  refine s_aload_n w (hb hby dpsa00_5) rfl rfl (pc' := 6) rfl ?_
  refine s_aload_n w (hb hby dpsa00_6) rfl rfl (pc' := 7) rfl ?_
  refine w_getF w (hw _ (List.mem_of_getElem? (i := 75) rfl)) Via.refl Vb (hb hby dpsa00_7) (pc' := 10) rfl fun T w => ?_
  refine s_iload_n w (hb hby dpsa00_10) rfl (pc' := 11) rfl ?_
  refine s_aload_n w (hb hby dpsa00_11) rfl rfl (pc' := 12) rfl ?_
  refine w_getF w (hw _ (List.mem_of_getElem? (i := 77) rfl)) Via.refl Cb (hb hby dpsa00_12) (pc' := 15) rfl fun T w => ?_
  refine w_virtualN w hEL (y := (⟨"java/lang/String", "getBytes", "([BIB)V"⟩ : MethodName)) (y' := (⟨"java/lang/String", "getBytes", "([BIB)V"⟩ : MethodName)) (C := "java/lang/String") (a := x) (hw _ (List.mem_of_getElem? (i := 117) rfl)) (hw _ (List.mem_of_getElem? (i := 118) rfl)) (hw _ (List.mem_of_getElem? (i := 120) rfl)) (hw _ (List.mem_of_getElem? (i := 120) rfl)) (hw _ (List.mem_of_getElem? (i := 119) rfl)) (hw _ (List.mem_of_getElem? (i := 7) rfl)) (hw _ (List.mem_of_getElem? (i := 121) rfl)) (by decide) Ex (rm_gby00 G0 h x t I0 tx kt kx cs.length ds _ hI X1 At (room_len hcl) hfit hnt) (allS (List.mem_of_getElem? (i := 0) rfl) all0) (allS (Or.inl (List.mem_of_getElem? (i := 0) rfl)) all0) (argsL := [.ref t, .int I0, .int 0]) (rest := []) (lenOf (by decide +kernel : parseMethodDescriptor "([BIB)V" = some ⟨[(.array .byte), .int, .byte], none⟩) rfl) rfl rfl (hb hby dpsa00_15) (by rw [hml]; rfl) (W := 0) (Nat.le_of_eq rfl) (by decide) (by decide) (by decide) (by decide) (pc' := 18) rfl fun u7 N8 T h9 w K10 P11 => ?_
  obtain ⟨rfl, P12⟩ := P11
  obtain ⟨rfl, P9⟩ := P12
  rw [room_put hfit] at P9
  show Run p e below _ T (mkF m 18 #[.val (.ref b), .val (.int I0), .val (.ref x)] [])
  exact w_return w hEL hs hlk hret (hb hby dpsa00_18) (by decide) (by decide) ⟨rfl, P9⟩
theorem dpsa01_0 : decode jdk_68_method_73_code 0 = .ok (.aload_n 0, 1) := by decide +kernel
theorem dpsa01_1 : decode jdk_68_method_73_code 1 = .ok (.aload_n 2, 1) := by decide +kernel
theorem dpsa01_2 : decode jdk_68_method_73_code 2 = .ok (.invokevirtual 397, 3) := by decide +kernel
theorem dpsa01_5 : decode jdk_68_method_73_code 5 = .ok (.aload_n 2, 1) := by decide +kernel
theorem dpsa01_6 : decode jdk_68_method_73_code 6 = .ok (.aload_n 0, 1) := by decide +kernel
theorem dpsa01_7 : decode jdk_68_method_73_code 7 = .ok (.getfield 15, 3) := by decide +kernel
theorem dpsa01_10 : decode jdk_68_method_73_code 10 = .ok (.iload_n 1, 1) := by decide +kernel
theorem dpsa01_11 : decode jdk_68_method_73_code 11 = .ok (.aload_n 0, 1) := by decide +kernel
theorem dpsa01_12 : decode jdk_68_method_73_code 12 = .ok (.getfield 22, 3) := by decide +kernel
theorem dpsa01_15 : decode jdk_68_method_73_code 15 = .ok (.invokevirtual 399, 3) := by decide +kernel
theorem dpsa01_18 : decode jdk_68_method_73_code 18 = .ok (.return_, 1) := by decide +kernel
theorem ef_psa01 (m : MethodId) (b : Addr) (I0 : Int32) (x : Addr) : entryFrame m #[.ref b, .int I0, .ref x] 3 = mkF m 0 #[.val (.ref b), .val (.int I0), .val (.ref x)] [] := by first | (simp [entryFrame, mkF, argsToLocals, Value.category]; done) | rfl
set_option maxRecDepth 65536 in
set_option maxHeartbeats 40000000 in
theorem rm_psa01 {l : Launch} {Z : State} {a0 : Array Value} {zc : Int32} {fm : Value} (G : Gl Z a0 zc fm) (h : Heap) (b : Addr) (I0 : Int32) (x : Addr) (t tx : Addr) (kt kx : ClassId) (cs ds : List Int32) (B0 : Sb0 Z h b t kt cs) (X0 : S1 Z h x tx kx ds) (hI : I0 = Int32.ofNat cs.length) (hfit : cs.length + ds.length ≤ 16) (hnt : tx ≠ t) :
    MetN l Z consts_1 (⟨"java/lang/AbstractStringBuilder", "putStringAt", "(ILjava/lang/String;)V"⟩ : MethodName) jdk_68_method_73_code 3 none ({ frames := 7, cells := 1, slots := 32, locals := 102 } : Room) #[.ref b, .int I0, .ref x] h [] [b] (fun v h' N => v = none ∧ ∃ t1 k1, N = [t1] ∧ h.size ≤ t1 ∧ Exa Z h' b SBC ∧ Fld Z h' b ASB "value" "[B" (.ref t1) ∧ Fld Z h' b ASB "coder" "B" (.int 1) ∧ Fld Z h' b ASB "count" "I" (.int (Int32.ofNat cs.length)) ∧ Fld Z h' b ASB "maybeLatin1" "Z" (.int 0) ∧ Arv Z h' t1 k1 .byte (Int32.ofNat (2 * 16)) (wroom (cs ++ ds) 16) (.int 0)) := by
  have G0 := G
  obtain ⟨hw, hEL, SC, hz, SF, hfm, SA, SH, SL⟩ := G
  have hw1 : ∀ d ∈ StrChars.Road.words, d.before a0 Z = true := fun d q => hw d (sub1 d q)
  have hwA : ∀ d ∈ Bundle.stringAtoms, d.before a0 Z = true := fun d q => hw d (subA d q)
  refine MetN.of (plainFor_of_name pn_4) ?_
  intro p e s m below meth c T hnm hret hlk hby hml hs w
  have hZ0 := w.old
  refine Run.cast (ef_psa01 m b I0 x) ?_
  have B1 := B0
  obtain ⟨Eb, Vb, Cb, Nb, Mb, At, hcs, hcl⟩ := B0
  have X1 := X0
  have Sx := X0.str
  obtain ⟨Ex, Vx, Cx, Ax, hds, hdl⟩ := X0
  refine s_aload_n w (hb hby dpsa01_0) rfl rfl (pc' := 1) rfl ?_
  refine s_aload_n w (hb hby dpsa01_1) rfl rfl (pc' := 2) rfl ?_
  refine w_privateN w hEL (y := (⟨"java/lang/AbstractStringBuilder", "inflateIfNeededFor", "(Ljava/lang/String;)V"⟩ : MethodName)) (C := "java/lang/StringBuilder") (a := b) (hw _ (List.mem_of_getElem? (i := 111) rfl)) (hw _ (List.mem_of_getElem? (i := 142) rfl)) rfl (hw _ (List.mem_of_getElem? (i := 113) rfl)) (hw _ (List.mem_of_getElem? (i := 112) rfl)) (hw _ (List.mem_of_getElem? (i := 71) rfl)) (hw _ (List.mem_of_getElem? (i := 115) rfl)) (by decide) Eb (rm_inf01 G0 h b x t tx kt kx cs ds B1 X1) all0 (allS (Or.inl (List.mem_of_getElem? (i := 0) rfl)) all0) (argsL := [.ref x]) (rest := []) (lenOf (by decide +kernel : parseMethodDescriptor "(Ljava/lang/String;)V" = some ⟨[(.object "java/lang/String")], none⟩) rfl) rfl rfl (hb hby dpsa01_2) (by rw [hml]; rfl) (W := 0) (Nat.le_of_eq rfl) (by decide) (by decide) (by decide) (by decide) (pc' := 5) rfl fun u1 N2 T h3 w K4 P5 => ?_
  obtain ⟨rfl, t1, k1, rfl, P8, Eb1, Vb1, Cb1, Nb1, Mb1, At1, hcs1, hcl1⟩ := P5
  have nbx : x ∉ [b] := ninS (ne_exa Ex Eb (by decide)) nin0
  have nbt : tx ∉ [b] := ninS (Exa.neArv Eb Ax (hw _ (List.mem_of_getElem? (i := 62) rfl))).symm nin0
  have X2 : S1 Z h3 x tx kx ds := ⟨Ex.keep K4, Vx.keep K4 nbx, Cx.keep K4 nbx, Ax.keep K4 nbt, hds, hdl⟩
  show Run p e below _ T (mkF m 5 #[.val (.ref b), .val (.int I0), .val (.ref x)] [])
  refine s_aload_n w (hb hby dpsa01_5) rfl rfl (pc' := 6) rfl ?_
  refine s_aload_n w (hb hby dpsa01_6) rfl rfl (pc' := 7) rfl ?_
  refine w_getF w (hw _ (List.mem_of_getElem? (i := 75) rfl)) Via.refl Vb1 (hb hby dpsa01_7) (pc' := 10) rfl fun T w => ?_
  refine s_iload_n w (hb hby dpsa01_10) rfl (pc' := 11) rfl ?_
  refine s_aload_n w (hb hby dpsa01_11) rfl rfl (pc' := 12) rfl ?_
  refine w_getF w (hw _ (List.mem_of_getElem? (i := 77) rfl)) Via.refl Cb1 (hb hby dpsa01_12) (pc' := 15) rfl fun T w => ?_
  refine w_virtualN w hEL (y := (⟨"java/lang/String", "getBytes", "([BIB)V"⟩ : MethodName)) (y' := (⟨"java/lang/String", "getBytes", "([BIB)V"⟩ : MethodName)) (C := "java/lang/String") (a := x) (hw _ (List.mem_of_getElem? (i := 117) rfl)) (hw _ (List.mem_of_getElem? (i := 118) rfl)) (hw _ (List.mem_of_getElem? (i := 120) rfl)) (hw _ (List.mem_of_getElem? (i := 120) rfl)) (hw _ (List.mem_of_getElem? (i := 119) rfl)) (hw _ (List.mem_of_getElem? (i := 7) rfl)) (hw _ (List.mem_of_getElem? (i := 121) rfl)) (by decide) X2.1 (rm_gby11 G0 h3 x t1 I0 tx k1 kx cs.length ds _ hI X2 At1 (wroom_len hcl) hfit (fun z => absurd P8 (by rw [← z]; exact Nat.not_le.mpr Ax.lt))) (allS (List.mem_of_getElem? (i := 0) rfl) all0) (allS (Or.inr P8) all0) (argsL := [.ref t1, .int I0, .int 1]) (rest := []) (lenOf (by decide +kernel : parseMethodDescriptor "([BIB)V" = some ⟨[(.array .byte), .int, .byte], none⟩) rfl) rfl rfl (hb hby dpsa01_15) (by rw [hml]; rfl) (W := 0) (Nat.le_of_eq rfl) (by decide) (by decide) (by decide) (by decide) (pc' := 18) rfl fun u6 N7 T h8 w K9 P10 => ?_
  obtain ⟨rfl, P11⟩ := P10
  obtain ⟨rfl, P9⟩ := P11
  rw [Nat.mul_add, wroom_put hfit] at P9
  have nt1 : b ∉ [t1] := ninS (Exa.neArv Eb1 At1 (hw _ (List.mem_of_getElem? (i := 62) rfl))) nin0
  have Vb2 := Vb1.keep K9 nt1
  have Cb2 := Cb1.keep K9 nt1
  have Nb2 := Nb1.keep K9 nt1
  have Mb2 := Mb1.keep K9 nt1
  have Eb2 := Eb1.keep K9
  show Run p e below _ T (mkF m 18 #[.val (.ref b), .val (.int I0), .val (.ref x)] [])
  exact w_returnN w hEL hs hlk hret (hb hby dpsa01_18) (by decide) (by decide) (N := [t1]) (allP (List.mem_cons_self ..)) ⟨rfl, t1, k1, rfl, P8, Eb2, Vb2, Cb2, Nb2, Mb2, P9⟩
theorem dpsa10_0 : decode jdk_68_method_73_code 0 = .ok (.aload_n 0, 1) := by decide +kernel
theorem dpsa10_1 : decode jdk_68_method_73_code 1 = .ok (.aload_n 2, 1) := by decide +kernel
theorem dpsa10_2 : decode jdk_68_method_73_code 2 = .ok (.invokevirtual 397, 3) := by decide +kernel
theorem dpsa10_5 : decode jdk_68_method_73_code 5 = .ok (.aload_n 2, 1) := by decide +kernel
theorem dpsa10_6 : decode jdk_68_method_73_code 6 = .ok (.aload_n 0, 1) := by decide +kernel
theorem dpsa10_7 : decode jdk_68_method_73_code 7 = .ok (.getfield 15, 3) := by decide +kernel
theorem dpsa10_10 : decode jdk_68_method_73_code 10 = .ok (.iload_n 1, 1) := by decide +kernel
theorem dpsa10_11 : decode jdk_68_method_73_code 11 = .ok (.aload_n 0, 1) := by decide +kernel
theorem dpsa10_12 : decode jdk_68_method_73_code 12 = .ok (.getfield 22, 3) := by decide +kernel
theorem dpsa10_15 : decode jdk_68_method_73_code 15 = .ok (.invokevirtual 399, 3) := by decide +kernel
theorem dpsa10_18 : decode jdk_68_method_73_code 18 = .ok (.return_, 1) := by decide +kernel
theorem ef_psa10 (m : MethodId) (b : Addr) (I0 : Int32) (x : Addr) : entryFrame m #[.ref b, .int I0, .ref x] 3 = mkF m 0 #[.val (.ref b), .val (.int I0), .val (.ref x)] [] := by first | (simp [entryFrame, mkF, argsToLocals, Value.category]; done) | rfl
set_option maxRecDepth 65536 in
set_option maxHeartbeats 40000000 in
theorem rm_psa10 {l : Launch} {Z : State} {a0 : Array Value} {zc : Int32} {fm : Value} (G : Gl Z a0 zc fm) (h : Heap) (b : Addr) (I0 : Int32) (x : Addr) (t tx : Addr) (kt kx : ClassId) (cs ds : List Int32) (B0 : Sb1 Z h b t kt cs) (X0 : S0 Z h x tx kx ds) (hI : I0 = Int32.ofNat cs.length) (hfit : cs.length + ds.length ≤ 16) (hnt : tx ≠ t) :
    Met l Z consts_1 (⟨"java/lang/AbstractStringBuilder", "putStringAt", "(ILjava/lang/String;)V"⟩ : MethodName) jdk_68_method_73_code 3 none ({ frames := 6, cells := 0, slots := 0, locals := 91 } : Room) #[.ref b, .int I0, .ref x] h [t] [t] (fun v h' => v = none ∧ Arv Z h' t kt .byte (Int32.ofNat (2 * 16)) (wroom (cs ++ ds) 16) (.int 0)) := by
  have G0 := G
  obtain ⟨hw, hEL, SC, hz, SF, hfm, SA, SH, SL⟩ := G
  have hw1 : ∀ d ∈ StrChars.Road.words, d.before a0 Z = true := fun d q => hw d (sub1 d q)
  have hwA : ∀ d ∈ Bundle.stringAtoms, d.before a0 Z = true := fun d q => hw d (subA d q)
  refine Met.of (plainFor_of_name pn_4) ?_
  intro p e s m below meth c T hnm hret hlk hby hml hs w
  have hZ0 := w.old
  refine Run.cast (ef_psa10 m b I0 x) ?_
  have B1 := B0
  obtain ⟨Eb, Vb, Cb, Nb, Mb, At, hcs, hcl⟩ := B0
  have X1 := X0
  have Sx := X0.str
  obtain ⟨Ex, Vx, Cx, Ax, hds, hdl⟩ := X0
  refine s_aload_n w (hb hby dpsa10_0) rfl rfl (pc' := 1) rfl ?_
  refine s_aload_n w (hb hby dpsa10_1) rfl rfl (pc' := 2) rfl ?_
  refine w_privateN w hEL (y := (⟨"java/lang/AbstractStringBuilder", "inflateIfNeededFor", "(Ljava/lang/String;)V"⟩ : MethodName)) (C := "java/lang/StringBuilder") (a := b) (hw _ (List.mem_of_getElem? (i := 111) rfl)) (hw _ (List.mem_of_getElem? (i := 142) rfl)) rfl (hw _ (List.mem_of_getElem? (i := 113) rfl)) (hw _ (List.mem_of_getElem? (i := 112) rfl)) (hw _ (List.mem_of_getElem? (i := 71) rfl)) (hw _ (List.mem_of_getElem? (i := 115) rfl)) (by decide) Eb (rm_inf10 G0 h b x t tx kt kx cs ds B1 X1) all0 all0 (argsL := [.ref x]) (rest := []) (lenOf (by decide +kernel : parseMethodDescriptor "(Ljava/lang/String;)V" = some ⟨[(.object "java/lang/String")], none⟩) rfl) rfl rfl (hb hby dpsa10_2) (by rw [hml]; rfl) (W := 0) (Nat.le_of_eq rfl) (by decide) (by decide) (by decide) (by decide) (pc' := 5) rfl fun u1 N2 T h3 w K4 P5 => ?_
  obtain ⟨rfl, P6⟩ := P5
  obtain ⟨rfl, rfl⟩ := P6
  show Run p e below _ T (mkF m 5 #[.val (.ref b), .val (.int I0), .val (.ref x)] [])
  refine s_aload_n w (hb hby dpsa10_5) rfl rfl (pc' := 6) rfl ?_
  refine s_aload_n w (hb hby dpsa10_6) rfl rfl (pc' := 7) rfl ?_
  refine w_getF w (hw _ (List.mem_of_getElem? (i := 75) rfl)) Via.refl Vb (hb hby dpsa10_7) (pc' := 10) rfl fun T w => ?_
  refine s_iload_n w (hb hby dpsa10_10) rfl (pc' := 11) rfl ?_
  refine s_aload_n w (hb hby dpsa10_11) rfl rfl (pc' := 12) rfl ?_
  refine w_getF w (hw _ (List.mem_of_getElem? (i := 77) rfl)) Via.refl Cb (hb hby dpsa10_12) (pc' := 15) rfl fun T w => ?_
  refine w_virtualN w hEL (y := (⟨"java/lang/String", "getBytes", "([BIB)V"⟩ : MethodName)) (y' := (⟨"java/lang/String", "getBytes", "([BIB)V"⟩ : MethodName)) (C := "java/lang/String") (a := x) (hw _ (List.mem_of_getElem? (i := 117) rfl)) (hw _ (List.mem_of_getElem? (i := 118) rfl)) (hw _ (List.mem_of_getElem? (i := 120) rfl)) (hw _ (List.mem_of_getElem? (i := 120) rfl)) (hw _ (List.mem_of_getElem? (i := 119) rfl)) (hw _ (List.mem_of_getElem? (i := 7) rfl)) (hw _ (List.mem_of_getElem? (i := 121) rfl)) (by decide) Ex (rm_gby10 G0 h x t I0 tx kt kx cs.length ds _ hI X1 At (wroom_len hcl) hfit hnt) (allS (List.mem_of_getElem? (i := 0) rfl) all0) (allS (Or.inl (List.mem_of_getElem? (i := 0) rfl)) all0) (argsL := [.ref t, .int I0, .int 1]) (rest := []) (lenOf (by decide +kernel : parseMethodDescriptor "([BIB)V" = some ⟨[(.array .byte), .int, .byte], none⟩) rfl) rfl rfl (hb hby dpsa10_15) (by rw [hml]; rfl) (W := 0) (Nat.le_of_eq rfl) (by decide) (by decide) (by decide) (by decide) (pc' := 18) rfl fun u7 N8 T h9 w K10 P11 => ?_
  obtain ⟨rfl, P12⟩ := P11
  obtain ⟨rfl, P9⟩ := P12
  rw [Nat.mul_add, wroom_put hfit] at P9
  show Run p e below _ T (mkF m 18 #[.val (.ref b), .val (.int I0), .val (.ref x)] [])
  exact w_return w hEL hs hlk hret (hb hby dpsa10_18) (by decide) (by decide) ⟨rfl, P9⟩
theorem dpsa11_0 : decode jdk_68_method_73_code 0 = .ok (.aload_n 0, 1) := by decide +kernel
theorem dpsa11_1 : decode jdk_68_method_73_code 1 = .ok (.aload_n 2, 1) := by decide +kernel
theorem dpsa11_2 : decode jdk_68_method_73_code 2 = .ok (.invokevirtual 397, 3) := by decide +kernel
theorem dpsa11_5 : decode jdk_68_method_73_code 5 = .ok (.aload_n 2, 1) := by decide +kernel
theorem dpsa11_6 : decode jdk_68_method_73_code 6 = .ok (.aload_n 0, 1) := by decide +kernel
theorem dpsa11_7 : decode jdk_68_method_73_code 7 = .ok (.getfield 15, 3) := by decide +kernel
theorem dpsa11_10 : decode jdk_68_method_73_code 10 = .ok (.iload_n 1, 1) := by decide +kernel
theorem dpsa11_11 : decode jdk_68_method_73_code 11 = .ok (.aload_n 0, 1) := by decide +kernel
theorem dpsa11_12 : decode jdk_68_method_73_code 12 = .ok (.getfield 22, 3) := by decide +kernel
theorem dpsa11_15 : decode jdk_68_method_73_code 15 = .ok (.invokevirtual 399, 3) := by decide +kernel
theorem dpsa11_18 : decode jdk_68_method_73_code 18 = .ok (.return_, 1) := by decide +kernel
theorem ef_psa11 (m : MethodId) (b : Addr) (I0 : Int32) (x : Addr) : entryFrame m #[.ref b, .int I0, .ref x] 3 = mkF m 0 #[.val (.ref b), .val (.int I0), .val (.ref x)] [] := by first | (simp [entryFrame, mkF, argsToLocals, Value.category]; done) | rfl
set_option maxRecDepth 65536 in
set_option maxHeartbeats 40000000 in
theorem rm_psa11 {l : Launch} {Z : State} {a0 : Array Value} {zc : Int32} {fm : Value} (G : Gl Z a0 zc fm) (h : Heap) (b : Addr) (I0 : Int32) (x : Addr) (t tx : Addr) (kt kx : ClassId) (cs ds : List Int32) (B0 : Sb1 Z h b t kt cs) (X0 : S1 Z h x tx kx ds) (hI : I0 = Int32.ofNat cs.length) (hfit : cs.length + ds.length ≤ 16) (hnt : tx ≠ t) :
    Met l Z consts_1 (⟨"java/lang/AbstractStringBuilder", "putStringAt", "(ILjava/lang/String;)V"⟩ : MethodName) jdk_68_method_73_code 3 none ({ frames := 2, cells := 0, slots := 0, locals := 55 } : Room) #[.ref b, .int I0, .ref x] h [t] [t] (fun v h' => v = none ∧ Arv Z h' t kt .byte (Int32.ofNat (2 * 16)) (wroom (cs ++ ds) 16) (.int 0)) := by
  have G0 := G
  obtain ⟨hw, hEL, SC, hz, SF, hfm, SA, SH, SL⟩ := G
  have hw1 : ∀ d ∈ StrChars.Road.words, d.before a0 Z = true := fun d q => hw d (sub1 d q)
  have hwA : ∀ d ∈ Bundle.stringAtoms, d.before a0 Z = true := fun d q => hw d (subA d q)
  refine Met.of (plainFor_of_name pn_4) ?_
  intro p e s m below meth c T hnm hret hlk hby hml hs w
  have hZ0 := w.old
  refine Run.cast (ef_psa11 m b I0 x) ?_
  have B1 := B0
  obtain ⟨Eb, Vb, Cb, Nb, Mb, At, hcs, hcl⟩ := B0
  have X1 := X0
  have Sx := X0.str
  obtain ⟨Ex, Vx, Cx, Ax, hds, hdl⟩ := X0
  refine s_aload_n w (hb hby dpsa11_0) rfl rfl (pc' := 1) rfl ?_
  refine s_aload_n w (hb hby dpsa11_1) rfl rfl (pc' := 2) rfl ?_
  refine w_privateN w hEL (y := (⟨"java/lang/AbstractStringBuilder", "inflateIfNeededFor", "(Ljava/lang/String;)V"⟩ : MethodName)) (C := "java/lang/StringBuilder") (a := b) (hw _ (List.mem_of_getElem? (i := 111) rfl)) (hw _ (List.mem_of_getElem? (i := 142) rfl)) rfl (hw _ (List.mem_of_getElem? (i := 113) rfl)) (hw _ (List.mem_of_getElem? (i := 112) rfl)) (hw _ (List.mem_of_getElem? (i := 71) rfl)) (hw _ (List.mem_of_getElem? (i := 115) rfl)) (by decide) Eb (rm_inf11 G0 h b x t tx kt kx cs ds B1 X1) all0 all0 (argsL := [.ref x]) (rest := []) (lenOf (by decide +kernel : parseMethodDescriptor "(Ljava/lang/String;)V" = some ⟨[(.object "java/lang/String")], none⟩) rfl) rfl rfl (hb hby dpsa11_2) (by rw [hml]; rfl) (W := 0) (Nat.le_of_eq rfl) (by decide) (by decide) (by decide) (by decide) (pc' := 5) rfl fun u1 N2 T h3 w K4 P5 => ?_
  obtain ⟨rfl, P6⟩ := P5
  obtain ⟨rfl, rfl⟩ := P6
  show Run p e below _ T (mkF m 5 #[.val (.ref b), .val (.int I0), .val (.ref x)] [])
  refine s_aload_n w (hb hby dpsa11_5) rfl rfl (pc' := 6) rfl ?_
  refine s_aload_n w (hb hby dpsa11_6) rfl rfl (pc' := 7) rfl ?_
  refine w_getF w (hw _ (List.mem_of_getElem? (i := 75) rfl)) Via.refl Vb (hb hby dpsa11_7) (pc' := 10) rfl fun T w => ?_
  refine s_iload_n w (hb hby dpsa11_10) rfl (pc' := 11) rfl ?_
  refine s_aload_n w (hb hby dpsa11_11) rfl rfl (pc' := 12) rfl ?_
  refine w_getF w (hw _ (List.mem_of_getElem? (i := 77) rfl)) Via.refl Cb (hb hby dpsa11_12) (pc' := 15) rfl fun T w => ?_
  refine w_virtualN w hEL (y := (⟨"java/lang/String", "getBytes", "([BIB)V"⟩ : MethodName)) (y' := (⟨"java/lang/String", "getBytes", "([BIB)V"⟩ : MethodName)) (C := "java/lang/String") (a := x) (hw _ (List.mem_of_getElem? (i := 117) rfl)) (hw _ (List.mem_of_getElem? (i := 118) rfl)) (hw _ (List.mem_of_getElem? (i := 120) rfl)) (hw _ (List.mem_of_getElem? (i := 120) rfl)) (hw _ (List.mem_of_getElem? (i := 119) rfl)) (hw _ (List.mem_of_getElem? (i := 7) rfl)) (hw _ (List.mem_of_getElem? (i := 121) rfl)) (by decide) Ex (rm_gby11 G0 h x t I0 tx kt kx cs.length ds _ hI X1 At (wroom_len hcl) hfit hnt) (allS (List.mem_of_getElem? (i := 0) rfl) all0) (allS (Or.inl (List.mem_of_getElem? (i := 0) rfl)) all0) (argsL := [.ref t, .int I0, .int 1]) (rest := []) (lenOf (by decide +kernel : parseMethodDescriptor "([BIB)V" = some ⟨[(.array .byte), .int, .byte], none⟩) rfl) rfl rfl (hb hby dpsa11_15) (by rw [hml]; rfl) (W := 0) (Nat.le_of_eq rfl) (by decide) (by decide) (by decide) (by decide) (pc' := 18) rfl fun u7 N8 T h9 w K10 P11 => ?_
  obtain ⟨rfl, P12⟩ := P11
  obtain ⟨rfl, P9⟩ := P12
  rw [Nat.mul_add, wroom_put hfit] at P9
  show Run p e below _ T (mkF m 18 #[.val (.ref b), .val (.int I0), .val (.ref x)] [])
  exact w_return w hEL hs hlk hret (hb hby dpsa11_18) (by decide) (by decide) ⟨rfl, P9⟩
theorem deci0_0 : decode jdk_68_method_9_code 0 = .ok (.aload_n 0, 1) := by decide +kernel
theorem deci0_1 : decode jdk_68_method_9_code 1 = .ok (.getfield 15, 3) := by decide +kernel
theorem deci0_4 : decode jdk_68_method_9_code 4 = .ok (.arraylength, 1) := by decide +kernel
theorem deci0_5 : decode jdk_68_method_9_code 5 = .ok (.aload_n 0, 1) := by decide +kernel
theorem deci0_6 : decode jdk_68_method_9_code 6 = .ok (.getfield 22, 3) := by decide +kernel
theorem deci0_9 : decode jdk_68_method_9_code 9 = .ok (.ishr, 1) := by decide +kernel
theorem deci0_10 : decode jdk_68_method_9_code 10 = .ok (.istore_n 2, 1) := by decide +kernel
theorem deci0_11 : decode jdk_68_method_9_code 11 = .ok (.iload_n 1, 1) := by decide +kernel
theorem deci0_12 : decode jdk_68_method_9_code 12 = .ok (.iload_n 2, 1) := by decide +kernel
theorem deci0_13 : decode jdk_68_method_9_code 13 = .ok (.isub, 1) := by decide +kernel
theorem deci0_14 : decode jdk_68_method_9_code 14 = .ok (.ifCond .le 24, 3) := by decide +kernel
theorem deci0_17 : decode jdk_68_method_9_code 17 = .ok (.aload_n 0, 1) := by decide +kernel
theorem deci0_18 : decode jdk_68_method_9_code 18 = .ok (.aload_n 0, 1) := by decide +kernel
theorem deci0_19 : decode jdk_68_method_9_code 19 = .ok (.getfield 15, 3) := by decide +kernel
theorem deci0_22 : decode jdk_68_method_9_code 22 = .ok (.aload_n 0, 1) := by decide +kernel
theorem deci0_23 : decode jdk_68_method_9_code 23 = .ok (.iload_n 1, 1) := by decide +kernel
theorem deci0_24 : decode jdk_68_method_9_code 24 = .ok (.invokevirtual 104, 3) := by decide +kernel
theorem deci0_27 : decode jdk_68_method_9_code 27 = .ok (.aload_n 0, 1) := by decide +kernel
theorem deci0_28 : decode jdk_68_method_9_code 28 = .ok (.getfield 22, 3) := by decide +kernel
theorem deci0_31 : decode jdk_68_method_9_code 31 = .ok (.ishl, 1) := by decide +kernel
theorem deci0_32 : decode jdk_68_method_9_code 32 = .ok (.invokestatic 108, 3) := by decide +kernel
theorem deci0_35 : decode jdk_68_method_9_code 35 = .ok (.putfield 15, 3) := by decide +kernel
theorem deci0_38 : decode jdk_68_method_9_code 38 = .ok (.return_, 1) := by decide +kernel
theorem ef_eci0 (m : MethodId) (b : Addr) (M : Int32) : entryFrame m #[.ref b, .int M] 3 = mkF m 0 #[.val (.ref b), .val (.int M), .unset] [] := by first | (simp [entryFrame, mkF, argsToLocals, Value.category]; done) | rfl
set_option maxRecDepth 65536 in
set_option maxHeartbeats 40000000 in
theorem rm_eci0 {l : Launch} {Z : State} {a0 : Array Value} {zc : Int32} {fm : Value} (G : Gl Z a0 zc fm) (h : Heap) (b : Addr) (M : Int32) (t : Addr) (kt : ClassId) (m0 : Nat) (cs : List Int32) (hM : M = Int32.ofNat m0) (hm : m0 ≤ 16) (B0 : Sb0 Z h b t kt cs) :
    Met l Z consts_1 (⟨"java/lang/AbstractStringBuilder", "ensureCapacityInternal", "(I)V"⟩ : MethodName) jdk_68_method_9_code 3 none ({ frames := 0, cells := 0, slots := 0, locals := 0 } : Room) #[.ref b, .int M] h [] [] (fun v h' => v = none ∧ h = h') := by
  have G0 := G
  obtain ⟨hw, hEL, SC, hz, SF, hfm, SA, SH, SL⟩ := G
  have hw1 : ∀ d ∈ StrChars.Road.words, d.before a0 Z = true := fun d q => hw d (sub1 d q)
  have hwA : ∀ d ∈ Bundle.stringAtoms, d.before a0 Z = true := fun d q => hw d (subA d q)
  refine Met.of (plainFor_of_name pn_4) ?_
  intro p e s m below meth c T hnm hret hlk hby hml hs w
  have hZ0 := w.old
  refine Run.cast (ef_eci0 m b M) ?_
  have B1 := B0
  obtain ⟨Eb, Vb, Cb, Nb, Mb, At, hcs, hcl⟩ := B0
  refine s_aload_n w (hb hby deci0_0) rfl rfl (pc' := 1) rfl ?_
  refine w_getF w (hw _ (List.mem_of_getElem? (i := 75) rfl)) Via.refl Vb (hb hby deci0_1) (pc' := 4) rfl fun T w => ?_
  refine w_len w At (hb hby deci0_4) (pc' := 5) rfl ?_
  refine s_aload_n w (hb hby deci0_5) rfl rfl (pc' := 6) rfl ?_
  refine w_getF w (hw _ (List.mem_of_getElem? (i := 77) rfl)) Via.refl Cb (hb hby deci0_6) (pc' := 9) rfl fun T w => ?_
  refine s_ishr w (hb hby deci0_9) (pc' := 10) rfl ?_
  rw [shr0']
  refine s_istore_n w #[.val (.ref b), .val (.int M), .val (.int (Int32.ofNat 16))] (hb hby deci0_10) rfl (pc' := 11) rfl ?_
  refine s_iload_n w (hb hby deci0_11) rfl (pc' := 12) rfl ?_
  refine s_iload_n w (hb hby deci0_12) rfl (pc' := 13) rfl ?_
  refine s_isub w (hb hby deci0_13) (pc' := 14) rfl ?_
  refine s_if_le w (hb hby deci0_14) (by decide) (pc1 := 17) rfl (pc2 := 38) rfl (fun ct1 => ?_) (fun ct1 => ?_)
  · exact absurd ct1 (by rw [hM]; exact sub_le hm (by omega))
  · skip
    exact w_return w hEL hs hlk hret (hb hby deci0_38) (by decide) (by decide) ⟨rfl, rfl⟩
theorem deci1_0 : decode jdk_68_method_9_code 0 = .ok (.aload_n 0, 1) := by decide +kernel
theorem deci1_1 : decode jdk_68_method_9_code 1 = .ok (.getfield 15, 3) := by decide +kernel
theorem deci1_4 : decode jdk_68_method_9_code 4 = .ok (.arraylength, 1) := by decide +kernel
theorem deci1_5 : decode jdk_68_method_9_code 5 = .ok (.aload_n 0, 1) := by decide +kernel
theorem deci1_6 : decode jdk_68_method_9_code 6 = .ok (.getfield 22, 3) := by decide +kernel
theorem deci1_9 : decode jdk_68_method_9_code 9 = .ok (.ishr, 1) := by decide +kernel
theorem deci1_10 : decode jdk_68_method_9_code 10 = .ok (.istore_n 2, 1) := by decide +kernel
theorem deci1_11 : decode jdk_68_method_9_code 11 = .ok (.iload_n 1, 1) := by decide +kernel
theorem deci1_12 : decode jdk_68_method_9_code 12 = .ok (.iload_n 2, 1) := by decide +kernel
theorem deci1_13 : decode jdk_68_method_9_code 13 = .ok (.isub, 1) := by decide +kernel
theorem deci1_14 : decode jdk_68_method_9_code 14 = .ok (.ifCond .le 24, 3) := by decide +kernel
theorem deci1_17 : decode jdk_68_method_9_code 17 = .ok (.aload_n 0, 1) := by decide +kernel
theorem deci1_18 : decode jdk_68_method_9_code 18 = .ok (.aload_n 0, 1) := by decide +kernel
theorem deci1_19 : decode jdk_68_method_9_code 19 = .ok (.getfield 15, 3) := by decide +kernel
theorem deci1_22 : decode jdk_68_method_9_code 22 = .ok (.aload_n 0, 1) := by decide +kernel
theorem deci1_23 : decode jdk_68_method_9_code 23 = .ok (.iload_n 1, 1) := by decide +kernel
theorem deci1_24 : decode jdk_68_method_9_code 24 = .ok (.invokevirtual 104, 3) := by decide +kernel
theorem deci1_27 : decode jdk_68_method_9_code 27 = .ok (.aload_n 0, 1) := by decide +kernel
theorem deci1_28 : decode jdk_68_method_9_code 28 = .ok (.getfield 22, 3) := by decide +kernel
theorem deci1_31 : decode jdk_68_method_9_code 31 = .ok (.ishl, 1) := by decide +kernel
theorem deci1_32 : decode jdk_68_method_9_code 32 = .ok (.invokestatic 108, 3) := by decide +kernel
theorem deci1_35 : decode jdk_68_method_9_code 35 = .ok (.putfield 15, 3) := by decide +kernel
theorem deci1_38 : decode jdk_68_method_9_code 38 = .ok (.return_, 1) := by decide +kernel
theorem ef_eci1 (m : MethodId) (b : Addr) (M : Int32) : entryFrame m #[.ref b, .int M] 3 = mkF m 0 #[.val (.ref b), .val (.int M), .unset] [] := by first | (simp [entryFrame, mkF, argsToLocals, Value.category]; done) | rfl
set_option maxRecDepth 65536 in
set_option maxHeartbeats 40000000 in
theorem rm_eci1 {l : Launch} {Z : State} {a0 : Array Value} {zc : Int32} {fm : Value} (G : Gl Z a0 zc fm) (h : Heap) (b : Addr) (M : Int32) (t : Addr) (kt : ClassId) (m0 : Nat) (cs : List Int32) (hM : M = Int32.ofNat m0) (hm : m0 ≤ 16) (B0 : Sb1 Z h b t kt cs) :
    Met l Z consts_1 (⟨"java/lang/AbstractStringBuilder", "ensureCapacityInternal", "(I)V"⟩ : MethodName) jdk_68_method_9_code 3 none ({ frames := 0, cells := 0, slots := 0, locals := 0 } : Room) #[.ref b, .int M] h [] [] (fun v h' => v = none ∧ h = h') := by
  have G0 := G
  obtain ⟨hw, hEL, SC, hz, SF, hfm, SA, SH, SL⟩ := G
  have hw1 : ∀ d ∈ StrChars.Road.words, d.before a0 Z = true := fun d q => hw d (sub1 d q)
  have hwA : ∀ d ∈ Bundle.stringAtoms, d.before a0 Z = true := fun d q => hw d (subA d q)
  refine Met.of (plainFor_of_name pn_4) ?_
  intro p e s m below meth c T hnm hret hlk hby hml hs w
  have hZ0 := w.old
  refine Run.cast (ef_eci1 m b M) ?_
  have B1 := B0
  obtain ⟨Eb, Vb, Cb, Nb, Mb, At, hcs, hcl⟩ := B0
  refine s_aload_n w (hb hby deci1_0) rfl rfl (pc' := 1) rfl ?_
  refine w_getF w (hw _ (List.mem_of_getElem? (i := 75) rfl)) Via.refl Vb (hb hby deci1_1) (pc' := 4) rfl fun T w => ?_
  refine w_len w At (hb hby deci1_4) (pc' := 5) rfl ?_
  refine s_aload_n w (hb hby deci1_5) rfl rfl (pc' := 6) rfl ?_
  refine w_getF w (hw _ (List.mem_of_getElem? (i := 77) rfl)) Via.refl Cb (hb hby deci1_6) (pc' := 9) rfl fun T w => ?_
  refine s_ishr w (hb hby deci1_9) (pc' := 10) rfl ?_
  rw [ofN_shr (by decide)]
  refine s_istore_n w #[.val (.ref b), .val (.int M), .val (.int (Int32.ofNat 16))] (hb hby deci1_10) rfl (pc' := 11) rfl ?_
  refine s_iload_n w (hb hby deci1_11) rfl (pc' := 12) rfl ?_
  refine s_iload_n w (hb hby deci1_12) rfl (pc' := 13) rfl ?_
  refine s_isub w (hb hby deci1_13) (pc' := 14) rfl ?_
  refine s_if_le w (hb hby deci1_14) (by decide) (pc1 := 17) rfl (pc2 := 38) rfl (fun ct1 => ?_) (fun ct1 => ?_)
  · exact absurd ct1 (by rw [hM]; exact sub_le hm (by omega))
  · skip
    exact w_return w hEL hs hlk hret (hb hby deci1_38) (by decide) (by decide) ⟨rfl, rfl⟩
theorem dasa00_0 : decode jdk_68_method_22_code 0 = .ok (.aload_n 1, 1) := by decide +kernel
theorem dasa00_1 : decode jdk_68_method_22_code 1 = .ok (.ifnonnull 8, 3) := by decide +kernel
theorem dasa00_4 : decode jdk_68_method_22_code 4 = .ok (.aload_n 0, 1) := by decide +kernel
theorem dasa00_5 : decode jdk_68_method_22_code 5 = .ok (.invokevirtual 204, 3) := by decide +kernel
theorem dasa00_8 : decode jdk_68_method_22_code 8 = .ok (.areturn, 1) := by decide +kernel
theorem dasa00_9 : decode jdk_68_method_22_code 9 = .ok (.aload_n 1, 1) := by decide +kernel
theorem dasa00_10 : decode jdk_68_method_22_code 10 = .ok (.invokevirtual 32, 3) := by decide +kernel
theorem dasa00_13 : decode jdk_68_method_22_code 13 = .ok (.istore_n 2, 1) := by decide +kernel
theorem dasa00_14 : decode jdk_68_method_22_code 14 = .ok (.aload_n 0, 1) := by decide +kernel
theorem dasa00_15 : decode jdk_68_method_22_code 15 = .ok (.aload_n 0, 1) := by decide +kernel
theorem dasa00_16 : decode jdk_68_method_22_code 16 = .ok (.getfield 79, 3) := by decide +kernel
theorem dasa00_19 : decode jdk_68_method_22_code 19 = .ok (.iload_n 2, 1) := by decide +kernel
theorem dasa00_20 : decode jdk_68_method_22_code 20 = .ok (.iadd, 1) := by decide +kernel
theorem dasa00_21 : decode jdk_68_method_22_code 21 = .ok (.invokevirtual 100, 3) := by decide +kernel
theorem dasa00_24 : decode jdk_68_method_22_code 24 = .ok (.aload_n 0, 1) := by decide +kernel
theorem dasa00_25 : decode jdk_68_method_22_code 25 = .ok (.aload_n 0, 1) := by decide +kernel
theorem dasa00_26 : decode jdk_68_method_22_code 26 = .ok (.getfield 79, 3) := by decide +kernel
theorem dasa00_29 : decode jdk_68_method_22_code 29 = .ok (.aload_n 1, 1) := by decide +kernel
theorem dasa00_30 : decode jdk_68_method_22_code 30 = .ok (.invokevirtual 208, 3) := by decide +kernel
theorem dasa00_33 : decode jdk_68_method_22_code 33 = .ok (.aload_n 0, 1) := by decide +kernel
theorem dasa00_34 : decode jdk_68_method_22_code 34 = .ok (.dup, 1) := by decide +kernel
theorem dasa00_35 : decode jdk_68_method_22_code 35 = .ok (.getfield 79, 3) := by decide +kernel
theorem dasa00_38 : decode jdk_68_method_22_code 38 = .ok (.iload_n 2, 1) := by decide +kernel
theorem dasa00_39 : decode jdk_68_method_22_code 39 = .ok (.iadd, 1) := by decide +kernel
theorem dasa00_40 : decode jdk_68_method_22_code 40 = .ok (.putfield 79, 3) := by decide +kernel
theorem dasa00_43 : decode jdk_68_method_22_code 43 = .ok (.aload_n 0, 1) := by decide +kernel
theorem dasa00_44 : decode jdk_68_method_22_code 44 = .ok (.areturn, 1) := by decide +kernel
theorem ef_asa00 (m : MethodId) (b : Addr) (x : Addr) : entryFrame m #[.ref b, .ref x] 3 = mkF m 0 #[.val (.ref b), .val (.ref x), .unset] [] := by first | (simp [entryFrame, mkF, argsToLocals, Value.category]; done) | rfl
set_option maxRecDepth 65536 in
set_option maxHeartbeats 40000000 in
theorem rm_asa00 {l : Launch} {Z : State} {a0 : Array Value} {zc : Int32} {fm : Value} (G : Gl Z a0 zc fm) (h : Heap) (b : Addr) (x : Addr) (t tx : Addr) (kt kx : ClassId) (cs ds : List Int32) (B0 : Sb0 Z h b t kt cs) (X0 : S0 Z h x tx kx ds) (hfit : cs.length + ds.length ≤ 16) (hnt : tx ≠ t) :
    MetN l Z consts_1 (⟨"java/lang/AbstractStringBuilder", "append", "(Ljava/lang/String;)Ljava/lang/AbstractStringBuilder;"⟩ : MethodName) jdk_68_method_22_code 3 (some (.object "java/lang/AbstractStringBuilder")) ({ frames := 3, cells := 0, slots := 0, locals := 69 } : Room) #[.ref b, .ref x] h [t] [b, t] (fun v h' N => v = some (.ref b) ∧ ∃ t1 k1, N = [t1] ∧ (t1 = t ∨ h.size ≤ t1) ∧ Sb0 Z h' b t1 k1 (cs ++ ds)) := by
  have G0 := G
  obtain ⟨hw, hEL, SC, hz, SF, hfm, SA, SH, SL⟩ := G
  have hw1 : ∀ d ∈ StrChars.Road.words, d.before a0 Z = true := fun d q => hw d (sub1 d q)
  have hwA : ∀ d ∈ Bundle.stringAtoms, d.before a0 Z = true := fun d q => hw d (subA d q)
  refine MetN.of (plainFor_of_name pn_4) ?_
  intro p e s m below meth c T hnm hret hlk hby hml hs w
  have hZ0 := w.old
  refine Run.cast (ef_asa00 m b x) ?_
  have B1 := B0
  obtain ⟨Eb, Vb, Cb, Nb, Mb, At, hcs, hcl⟩ := B0
  have X1 := X0
  have Sx := X0.str
  obtain ⟨Ex, Vx, Cx, Ax, hds, hdl⟩ := X0
  have hwL : ∀ d ∈ StrChars.Road.wordsLen, d.before a0 Z = true := fun d q => hw d (subL d q)
  have hcx : Int32.ofNat cs.length + Int32.ofNat ds.length = Int32.ofNat (cs.length + ds.length) := (Int32.ofNat_add _ _).symm
  have ntb : b ≠ t := Exa.neArv Eb At (hw _ (List.mem_of_getElem? (i := 62) rfl))
  refine s_aload_n w (hb hby dasa00_0) rfl rfl (pc' := 1) rfl ?_
  refine s_ifnonnull_yes w (hb hby dasa00_1) (by decide) (pc' := 9) rfl ?_
  refine s_aload_n w (hb hby dasa00_9) rfl rfl (pc' := 10) rfl ?_
  obtain ⟨XE, Xt, Xkb, Xcd, XN, Xvs, Xq1, Xq2, Xq3, Xq4, Xq5, Xq6⟩ := id Sx
  refine w_virtB w (y := Len.yN) (y' := Len.yN) (C := ST) (hw _ (List.mem_of_getElem? (i := 89) rfl)) (hw _ (List.mem_of_getElem? (i := 90) rfl)) (hw _ (List.mem_of_getElem? (i := 92) rfl)) (hw _ (List.mem_of_getElem? (i := 92) rfl)) (hw _ (List.mem_of_getElem? (i := 91) rfl)) (by decide) XE (Pv := fun v => v = some (.int (Int32.ofNat (ds).length))) (as' := #[.ref x]) (W := 0) (fun vm0 hZ => StrChars.Road.lenW hZ hwL (hw _ (List.mem_of_getElem? (i := 6) rfl)) XE Xq1 Xq2 Xq3 Xq4 Xq5 (SC.ext w.old) hz Xq6 (by decide) (by decide)) (argsL := []) (rest := []) (lenOf (by decide +kernel : parseMethodDescriptor "()I" = some ⟨[], (some .int)⟩) rfl) rfl rfl (hb hby dasa00_10) (by rw [hml]; rfl) (Nat.le_of_eq rfl) (by decide) (by decide) (pc' := 13) rfl fun u1 T w P2 => ?_
  obtain rfl := P2
  show Run p e below _ T (mkF m 13 #[.val (.ref b), .val (.ref x), .unset] [.int (Int32.ofNat (ds).length)])
  refine s_istore_n w #[.val (.ref b), .val (.ref x), .val (.int (Int32.ofNat (ds).length))] (hb hby dasa00_13) rfl (pc' := 14) rfl ?_
  refine s_aload_n w (hb hby dasa00_14) rfl rfl (pc' := 15) rfl ?_
  refine s_aload_n w (hb hby dasa00_15) rfl rfl (pc' := 16) rfl ?_
  refine w_getF w (hw _ (List.mem_of_getElem? (i := 99) rfl)) Via.refl Nb (hb hby dasa00_16) (pc' := 19) rfl fun T w => ?_
  refine s_iload_n w (hb hby dasa00_19) rfl (pc' := 20) rfl ?_
  refine s_iadd w (hb hby dasa00_20) (pc' := 21) rfl ?_
  refine w_privateN w hEL (y := (⟨"java/lang/AbstractStringBuilder", "ensureCapacityInternal", "(I)V"⟩ : MethodName)) (C := "java/lang/StringBuilder") (a := b) (hw _ (List.mem_of_getElem? (i := 101) rfl)) (hw _ (List.mem_of_getElem? (i := 142) rfl)) rfl (hw _ (List.mem_of_getElem? (i := 103) rfl)) (hw _ (List.mem_of_getElem? (i := 102) rfl)) (hw _ (List.mem_of_getElem? (i := 71) rfl)) (hw _ (List.mem_of_getElem? (i := 105) rfl)) (by decide) Eb (rm_eci0 G0 h b _ t kt (cs.length + ds.length) cs hcx hfit B1) all0 all0 (argsL := [.int ((Int32.ofNat cs.length) + (Int32.ofNat (ds).length))]) (rest := []) (lenOf (by decide +kernel : parseMethodDescriptor "(I)V" = some ⟨[.int], none⟩) rfl) rfl rfl (hb hby dasa00_21) (by rw [hml]; rfl) (W := 0) (Nat.le_of_eq rfl) (by decide) (by decide) (by decide) (by decide) (pc' := 24) rfl fun u3 N4 T h5 w K6 P7 => ?_
  obtain ⟨rfl, P8⟩ := P7
  obtain ⟨rfl, rfl⟩ := P8
  show Run p e below _ T (mkF m 24 #[.val (.ref b), .val (.ref x), .val (.int (Int32.ofNat (ds).length))] [])
  refine s_aload_n w (hb hby dasa00_24) rfl rfl (pc' := 25) rfl ?_
  refine s_aload_n w (hb hby dasa00_25) rfl rfl (pc' := 26) rfl ?_
  refine w_getF w (hw _ (List.mem_of_getElem? (i := 99) rfl)) Via.refl Nb (hb hby dasa00_26) (pc' := 29) rfl fun T w => ?_
  refine s_aload_n w (hb hby dasa00_29) rfl rfl (pc' := 30) rfl ?_
  refine w_privateN w hEL (y := (⟨"java/lang/AbstractStringBuilder", "putStringAt", "(ILjava/lang/String;)V"⟩ : MethodName)) (C := "java/lang/StringBuilder") (a := b) (hw _ (List.mem_of_getElem? (i := 106) rfl)) (hw _ (List.mem_of_getElem? (i := 142) rfl)) rfl (hw _ (List.mem_of_getElem? (i := 108) rfl)) (hw _ (List.mem_of_getElem? (i := 107) rfl)) (hw _ (List.mem_of_getElem? (i := 71) rfl)) (hw _ (List.mem_of_getElem? (i := 110) rfl)) (by decide) Eb (rm_psa00 G0 h b _ x t tx kt kx cs ds B1 X1 rfl hfit hnt) (allS (List.mem_of_getElem? (i := 0) rfl) all0) (allS (Or.inl (List.mem_of_getElem? (i := 1) rfl)) all0) (argsL := [.int (Int32.ofNat cs.length), .ref x]) (rest := []) (lenOf (by decide +kernel : parseMethodDescriptor "(ILjava/lang/String;)V" = some ⟨[.int, (.object "java/lang/String")], none⟩) rfl) rfl rfl (hb hby dasa00_30) (by rw [hml]; rfl) (W := 0) (Nat.le_of_eq rfl) (by decide) (by decide) (by decide) (by decide) (pc' := 33) rfl fun u9 N10 T h11 w K12 P13 => ?_
  obtain ⟨rfl, P14⟩ := P13
  obtain ⟨rfl, P9⟩ := P14
  have Vb1 := Vb.keep K12 (ninS ntb nin0)
  have Cb1 := Cb.keep K12 (ninS ntb nin0)
  have Nb1 := Nb.keep K12 (ninS ntb nin0)
  have Mb1 := Mb.keep K12 (ninS ntb nin0)
  have Eb1 := Eb.keep K12
  show Run p e below _ T (mkF m 33 #[.val (.ref b), .val (.ref x), .val (.int (Int32.ofNat (ds).length))] [])
  refine s_aload_n w (hb hby dasa00_33) rfl rfl (pc' := 34) rfl ?_
  refine s_dup w (hb hby dasa00_34) rfl (pc' := 35) rfl ?_
  refine w_getF w (hw _ (List.mem_of_getElem? (i := 99) rfl)) Via.refl Nb1 (hb hby dasa00_35) (pc' := 38) rfl fun T w => ?_
  refine s_iload_n w (hb hby dasa00_38) rfl (pc' := 39) rfl ?_
  refine s_iadd w (hb hby dasa00_39) (pc' := 40) rfl ?_
  rw [hcx, ← List.length_append]
  refine w_putF w (hw _ (List.mem_of_getElem? (i := 99) rfl)) Via.refl Nb1 Eb1 (Or.inl (hw _ (List.mem_of_getElem? (i := 100) rfl))) (hw _ (List.mem_of_getElem? (i := 62) rfl)) (ty := .int) (by decide) rfl rfl (hb hby dasa00_40) (Or.inl (List.mem_of_getElem? (i := 0) rfl)) (Or.inl ⟨by decide, by decide⟩) (pc' := 43) rfl fun T g1 w W1 F1 Y1 => ?_
  have sv : Jvm.RoadKit.slotOf Z ASB "value" "[B" ≠ Jvm.RoadKit.slotOf Z ASB "count" "I" := slot_ne (C := SBC) (Or.inl (hw _ (List.mem_of_getElem? (i := 76) rfl))) (Or.inl (hw _ (List.mem_of_getElem? (i := 100) rfl))) (by decide) (t := .array .byte) (t' := .int) (by decide) (by decide)
  have sc : Jvm.RoadKit.slotOf Z ASB "coder" "B" ≠ Jvm.RoadKit.slotOf Z ASB "count" "I" := slot_ne (C := SBC) (Or.inl (hw _ (List.mem_of_getElem? (i := 78) rfl))) (Or.inl (hw _ (List.mem_of_getElem? (i := 100) rfl))) (by decide) (t := .byte) (t' := .int) (by decide) (by decide)
  have sm : Jvm.RoadKit.slotOf Z ASB "maybeLatin1" "Z" ≠ Jvm.RoadKit.slotOf Z ASB "count" "I" := slot_ne (C := SBC) (Or.inl (hw _ (List.mem_of_getElem? (i := 250) rfl))) (Or.inl (hw _ (List.mem_of_getElem? (i := 100) rfl))) (by decide) (t := .boolean) (t' := .int) (by decide) (by decide)
  refine s_aload_n w (hb hby dasa00_43) rfl rfl (pc' := 44) rfl ?_
  exact w_areturnN w hEL hs hlk hret rfl rfl (hb hby dasa00_44) (by decide) (by decide) (N := [t]) (allP (List.mem_cons_self ..)) ⟨rfl, t, kt, rfl, Or.inl rfl, Y1, Vb1.other W1 (Or.inr sv), Cb1.other W1 (Or.inr sc), F1, Mb1.other W1 (Or.inr sm), P9.other W1 (Exa.neArv Eb1 P9 (hw _ (List.mem_of_getElem? (i := 62) rfl))).symm, (fun c q => (List.mem_append.mp q).elim (hcs c) (hds c)), by rw [List.length_append]; exact hfit⟩
theorem dapp00_0 : decode jdk_67_method_7_code 0 = .ok (.aload_n 0, 1) := by decide +kernel
theorem dapp00_1 : decode jdk_67_method_7_code 1 = .ok (.aload_n 1, 1) := by decide +kernel
theorem dapp00_2 : decode jdk_67_method_7_code 2 = .ok (.invokespecial 29, 3) := by decide +kernel
theorem dapp00_5 : decode jdk_67_method_7_code 5 = .ok (.pop, 1) := by decide +kernel
theorem dapp00_6 : decode jdk_67_method_7_code 6 = .ok (.aload_n 0, 1) := by decide +kernel
theorem dapp00_7 : decode jdk_67_method_7_code 7 = .ok (.areturn, 1) := by decide +kernel
theorem pn_5 : plainName "java/lang/StringBuilder" = true := by first | (simp [plainName, overriddenIn]; done) | decide +kernel
theorem ef_app00 (m : MethodId) (b : Addr) (x : Addr) : entryFrame m #[.ref b, .ref x] 2 = mkF m 0 #[.val (.ref b), .val (.ref x)] [] := by first | (simp [entryFrame, mkF, argsToLocals, Value.category]; done) | rfl
set_option maxRecDepth 65536 in
set_option maxHeartbeats 40000000 in
theorem rm_app00 {l : Launch} {Z : State} {a0 : Array Value} {zc : Int32} {fm : Value} (G : Gl Z a0 zc fm) (h : Heap) (b : Addr) (x : Addr) (t tx : Addr) (kt kx : ClassId) (cs ds : List Int32) (B0 : Sb0 Z h b t kt cs) (X0 : S0 Z h x tx kx ds) (hfit : cs.length + ds.length ≤ 16) (hnt : tx ≠ t) :
    MetN l Z consts_1 (⟨"java/lang/StringBuilder", "append", "(Ljava/lang/String;)Ljava/lang/StringBuilder;"⟩ : MethodName) jdk_67_method_7_code 2 (some (.object "java/lang/StringBuilder")) ({ frames := 4, cells := 0, slots := 0, locals := 83 } : Room) #[.ref b, .ref x] h [t] [b, t] (fun v h' N => v = some (.ref b) ∧ ∃ t1 k1, N = [t1] ∧ (t1 = t ∨ h.size ≤ t1) ∧ Sb0 Z h' b t1 k1 (cs ++ ds)) := by
  have G0 := G
  obtain ⟨hw, hEL, SC, hz, SF, hfm, SA, SH, SL⟩ := G
  have hw1 : ∀ d ∈ StrChars.Road.words, d.before a0 Z = true := fun d q => hw d (sub1 d q)
  have hwA : ∀ d ∈ Bundle.stringAtoms, d.before a0 Z = true := fun d q => hw d (subA d q)
  refine MetN.of (plainFor_of_name pn_5) ?_
  intro p e s m below meth c T hnm hret hlk hby hml hs w
  have hZ0 := w.old
  refine Run.cast (ef_app00 m b x) ?_
  refine s_aload_n w (hb hby dapp00_0) rfl rfl (pc' := 1) rfl ?_
  refine s_aload_n w (hb hby dapp00_1) rfl rfl (pc' := 2) rfl ?_
  refine w_superN w hEL (y := (⟨"java/lang/AbstractStringBuilder", "append", "(Ljava/lang/String;)Ljava/lang/AbstractStringBuilder;"⟩ : MethodName)) (C := "java/lang/StringBuilder") (a := b) (by decide) (hw _ (List.mem_of_getElem? (i := 84) rfl)) (hw _ (List.mem_of_getElem? (i := 87) rfl)) (hw _ (List.mem_of_getElem? (i := 142) rfl)) rfl (hw _ (List.mem_of_getElem? (i := 86) rfl)) (hw _ (List.mem_of_getElem? (i := 85) rfl)) (hw _ (List.mem_of_getElem? (i := 71) rfl)) (hw _ (List.mem_of_getElem? (i := 88) rfl)) (by decide) B0.1 (rm_asa00 G0 h b x t tx kt kx cs ds B0 X0 hfit hnt) (allS (List.mem_of_getElem? (i := 0) rfl) all0) (allS (Or.inl (List.mem_of_getElem? (i := 0) rfl)) (allS (Or.inl (List.mem_of_getElem? (i := 1) rfl)) all0)) (argsL := [.ref x]) (rest := []) (lenOf (by decide +kernel : parseMethodDescriptor "(Ljava/lang/String;)Ljava/lang/AbstractStringBuilder;" = some ⟨[(.object "java/lang/String")], (some (.object "java/lang/AbstractStringBuilder"))⟩) rfl) rfl rfl (hb hby dapp00_2) (by rw [hml]; rfl) (W := 0) (Nat.le_of_eq rfl) (by decide) (by decide) (by decide) (by decide) (pc' := 5) rfl fun u1 N2 T h3 w K4 P5 => ?_
  obtain ⟨rfl, t1, k1, rfl, P8, P9⟩ := P5
  show Run p e below _ T (mkF m 5 #[.val (.ref b), .val (.ref x)] [.ref b])
  refine s_pop w (hb hby dapp00_5) rfl (pc' := 6) rfl ?_
  refine s_aload_n w (hb hby dapp00_6) rfl rfl (pc' := 7) rfl ?_
  exact w_areturnN w hEL hs hlk hret rfl rfl (hb hby dapp00_7) (by decide) (by decide) (N := [t1]) (allP (List.mem_cons_self ..)) ⟨rfl, t1, k1, rfl, P8, P9⟩
theorem dasa01_0 : decode jdk_68_method_22_code 0 = .ok (.aload_n 1, 1) := by decide +kernel
theorem dasa01_1 : decode jdk_68_method_22_code 1 = .ok (.ifnonnull 8, 3) := by decide +kernel
theorem dasa01_4 : decode jdk_68_method_22_code 4 = .ok (.aload_n 0, 1) := by decide +kernel
theorem dasa01_5 : decode jdk_68_method_22_code 5 = .ok (.invokevirtual 204, 3) := by decide +kernel
theorem dasa01_8 : decode jdk_68_method_22_code 8 = .ok (.areturn, 1) := by decide +kernel
theorem dasa01_9 : decode jdk_68_method_22_code 9 = .ok (.aload_n 1, 1) := by decide +kernel
theorem dasa01_10 : decode jdk_68_method_22_code 10 = .ok (.invokevirtual 32, 3) := by decide +kernel
theorem dasa01_13 : decode jdk_68_method_22_code 13 = .ok (.istore_n 2, 1) := by decide +kernel
theorem dasa01_14 : decode jdk_68_method_22_code 14 = .ok (.aload_n 0, 1) := by decide +kernel
theorem dasa01_15 : decode jdk_68_method_22_code 15 = .ok (.aload_n 0, 1) := by decide +kernel
theorem dasa01_16 : decode jdk_68_method_22_code 16 = .ok (.getfield 79, 3) := by decide +kernel
theorem dasa01_19 : decode jdk_68_method_22_code 19 = .ok (.iload_n 2, 1) := by decide +kernel
theorem dasa01_20 : decode jdk_68_method_22_code 20 = .ok (.iadd, 1) := by decide +kernel
theorem dasa01_21 : decode jdk_68_method_22_code 21 = .ok (.invokevirtual 100, 3) := by decide +kernel
theorem dasa01_24 : decode jdk_68_method_22_code 24 = .ok (.aload_n 0, 1) := by decide +kernel
theorem dasa01_25 : decode jdk_68_method_22_code 25 = .ok (.aload_n 0, 1) := by decide +kernel
theorem dasa01_26 : decode jdk_68_method_22_code 26 = .ok (.getfield 79, 3) := by decide +kernel
theorem dasa01_29 : decode jdk_68_method_22_code 29 = .ok (.aload_n 1, 1) := by decide +kernel
theorem dasa01_30 : decode jdk_68_method_22_code 30 = .ok (.invokevirtual 208, 3) := by decide +kernel
theorem dasa01_33 : decode jdk_68_method_22_code 33 = .ok (.aload_n 0, 1) := by decide +kernel
theorem dasa01_34 : decode jdk_68_method_22_code 34 = .ok (.dup, 1) := by decide +kernel
theorem dasa01_35 : decode jdk_68_method_22_code 35 = .ok (.getfield 79, 3) := by decide +kernel
theorem dasa01_38 : decode jdk_68_method_22_code 38 = .ok (.iload_n 2, 1) := by decide +kernel
theorem dasa01_39 : decode jdk_68_method_22_code 39 = .ok (.iadd, 1) := by decide +kernel
theorem dasa01_40 : decode jdk_68_method_22_code 40 = .ok (.putfield 79, 3) := by decide +kernel
theorem dasa01_43 : decode jdk_68_method_22_code 43 = .ok (.aload_n 0, 1) := by decide +kernel
theorem dasa01_44 : decode jdk_68_method_22_code 44 = .ok (.areturn, 1) := by decide +kernel
theorem ef_asa01 (m : MethodId) (b : Addr) (x : Addr) : entryFrame m #[.ref b, .ref x] 3 = mkF m 0 #[.val (.ref b), .val (.ref x), .unset] [] := by first | (simp [entryFrame, mkF, argsToLocals, Value.category]; done) | rfl
set_option maxRecDepth 65536 in
set_option maxHeartbeats 40000000 in
theorem rm_asa01 {l : Launch} {Z : State} {a0 : Array Value} {zc : Int32} {fm : Value} (G : Gl Z a0 zc fm) (h : Heap) (b : Addr) (x : Addr) (t tx : Addr) (kt kx : ClassId) (cs ds : List Int32) (B0 : Sb0 Z h b t kt cs) (X0 : S1 Z h x tx kx ds) (hfit : cs.length + ds.length ≤ 16) (hnt : tx ≠ t) :
    MetN l Z consts_1 (⟨"java/lang/AbstractStringBuilder", "append", "(Ljava/lang/String;)Ljava/lang/AbstractStringBuilder;"⟩ : MethodName) jdk_68_method_22_code 3 (some (.object "java/lang/AbstractStringBuilder")) ({ frames := 8, cells := 1, slots := 32, locals := 116 } : Room) #[.ref b, .ref x] h [t] [b, t] (fun v h' N => v = some (.ref b) ∧ ∃ t1 k1, N = [t1] ∧ (t1 = t ∨ h.size ≤ t1) ∧ Sb1 Z h' b t1 k1 (cs ++ ds)) := by
  have G0 := G
  obtain ⟨hw, hEL, SC, hz, SF, hfm, SA, SH, SL⟩ := G
  have hw1 : ∀ d ∈ StrChars.Road.words, d.before a0 Z = true := fun d q => hw d (sub1 d q)
  have hwA : ∀ d ∈ Bundle.stringAtoms, d.before a0 Z = true := fun d q => hw d (subA d q)
  refine MetN.of (plainFor_of_name pn_4) ?_
  intro p e s m below meth c T hnm hret hlk hby hml hs w
  have hZ0 := w.old
  refine Run.cast (ef_asa01 m b x) ?_
  have B1 := B0
  obtain ⟨Eb, Vb, Cb, Nb, Mb, At, hcs, hcl⟩ := B0
  have X1 := X0
  have Sx := X0.str
  obtain ⟨Ex, Vx, Cx, Ax, hds, hdl⟩ := X0
  have hwL : ∀ d ∈ StrChars.Road.wordsLen, d.before a0 Z = true := fun d q => hw d (subL d q)
  have hcx : Int32.ofNat cs.length + Int32.ofNat ds.length = Int32.ofNat (cs.length + ds.length) := (Int32.ofNat_add _ _).symm
  have ntb : b ≠ t := Exa.neArv Eb At (hw _ (List.mem_of_getElem? (i := 62) rfl))
  refine s_aload_n w (hb hby dasa01_0) rfl rfl (pc' := 1) rfl ?_
  refine s_ifnonnull_yes w (hb hby dasa01_1) (by decide) (pc' := 9) rfl ?_
  refine s_aload_n w (hb hby dasa01_9) rfl rfl (pc' := 10) rfl ?_
  obtain ⟨XE, Xt, Xkb, Xcd, XN, Xvs, Xq1, Xq2, Xq3, Xq4, Xq5, Xq6⟩ := id Sx
  refine w_virtB w (y := Len.yN) (y' := Len.yN) (C := ST) (hw _ (List.mem_of_getElem? (i := 89) rfl)) (hw _ (List.mem_of_getElem? (i := 90) rfl)) (hw _ (List.mem_of_getElem? (i := 92) rfl)) (hw _ (List.mem_of_getElem? (i := 92) rfl)) (hw _ (List.mem_of_getElem? (i := 91) rfl)) (by decide) XE (Pv := fun v => v = some (.int (Int32.ofNat (ds).length))) (as' := #[.ref x]) (W := 0) (fun vm0 hZ => StrChars.Road.lenW hZ hwL (hw _ (List.mem_of_getElem? (i := 6) rfl)) XE Xq1 Xq2 Xq3 Xq4 Xq5 (SC.ext w.old) hz Xq6 (by decide) (by decide)) (argsL := []) (rest := []) (lenOf (by decide +kernel : parseMethodDescriptor "()I" = some ⟨[], (some .int)⟩) rfl) rfl rfl (hb hby dasa01_10) (by rw [hml]; rfl) (Nat.le_of_eq rfl) (by decide) (by decide) (pc' := 13) rfl fun u1 T w P2 => ?_
  obtain rfl := P2
  show Run p e below _ T (mkF m 13 #[.val (.ref b), .val (.ref x), .unset] [.int (Int32.ofNat (ds).length)])
  refine s_istore_n w #[.val (.ref b), .val (.ref x), .val (.int (Int32.ofNat (ds).length))] (hb hby dasa01_13) rfl (pc' := 14) rfl ?_
  refine s_aload_n w (hb hby dasa01_14) rfl rfl (pc' := 15) rfl ?_
  refine s_aload_n w (hb hby dasa01_15) rfl rfl (pc' := 16) rfl ?_
  refine w_getF w (hw _ (List.mem_of_getElem? (i := 99) rfl)) Via.refl Nb (hb hby dasa01_16) (pc' := 19) rfl fun T w => ?_
  refine s_iload_n w (hb hby dasa01_19) rfl (pc' := 20) rfl ?_
  refine s_iadd w (hb hby dasa01_20) (pc' := 21) rfl ?_
  refine w_privateN w hEL (y := (⟨"java/lang/AbstractStringBuilder", "ensureCapacityInternal", "(I)V"⟩ : MethodName)) (C := "java/lang/StringBuilder") (a := b) (hw _ (List.mem_of_getElem? (i := 101) rfl)) (hw _ (List.mem_of_getElem? (i := 142) rfl)) rfl (hw _ (List.mem_of_getElem? (i := 103) rfl)) (hw _ (List.mem_of_getElem? (i := 102) rfl)) (hw _ (List.mem_of_getElem? (i := 71) rfl)) (hw _ (List.mem_of_getElem? (i := 105) rfl)) (by decide) Eb (rm_eci0 G0 h b _ t kt (cs.length + ds.length) cs hcx hfit B1) all0 all0 (argsL := [.int ((Int32.ofNat cs.length) + (Int32.ofNat (ds).length))]) (rest := []) (lenOf (by decide +kernel : parseMethodDescriptor "(I)V" = some ⟨[.int], none⟩) rfl) rfl rfl (hb hby dasa01_21) (by rw [hml]; rfl) (W := 0) (Nat.le_of_eq rfl) (by decide) (by decide) (by decide) (by decide) (pc' := 24) rfl fun u3 N4 T h5 w K6 P7 => ?_
  obtain ⟨rfl, P8⟩ := P7
  obtain ⟨rfl, rfl⟩ := P8
  show Run p e below _ T (mkF m 24 #[.val (.ref b), .val (.ref x), .val (.int (Int32.ofNat (ds).length))] [])
  refine s_aload_n w (hb hby dasa01_24) rfl rfl (pc' := 25) rfl ?_
  refine s_aload_n w (hb hby dasa01_25) rfl rfl (pc' := 26) rfl ?_
  refine w_getF w (hw _ (List.mem_of_getElem? (i := 99) rfl)) Via.refl Nb (hb hby dasa01_26) (pc' := 29) rfl fun T w => ?_
  refine s_aload_n w (hb hby dasa01_29) rfl rfl (pc' := 30) rfl ?_
  refine w_privateN w hEL (y := (⟨"java/lang/AbstractStringBuilder", "putStringAt", "(ILjava/lang/String;)V"⟩ : MethodName)) (C := "java/lang/StringBuilder") (a := b) (hw _ (List.mem_of_getElem? (i := 106) rfl)) (hw _ (List.mem_of_getElem? (i := 142) rfl)) rfl (hw _ (List.mem_of_getElem? (i := 108) rfl)) (hw _ (List.mem_of_getElem? (i := 107) rfl)) (hw _ (List.mem_of_getElem? (i := 71) rfl)) (hw _ (List.mem_of_getElem? (i := 110) rfl)) (by decide) Eb (rm_psa01 G0 h b _ x t tx kt kx cs ds B1 X1 rfl hfit hnt) all0 (allS (Or.inl (List.mem_of_getElem? (i := 0) rfl)) all0) (argsL := [.int (Int32.ofNat cs.length), .ref x]) (rest := []) (lenOf (by decide +kernel : parseMethodDescriptor "(ILjava/lang/String;)V" = some ⟨[.int, (.object "java/lang/String")], none⟩) rfl) rfl rfl (hb hby dasa01_30) (by rw [hml]; rfl) (W := 0) (Nat.le_of_eq rfl) (by decide) (by decide) (by decide) (by decide) (pc' := 33) rfl fun u9 N10 T h11 w K12 P13 => ?_
  obtain ⟨rfl, t1, k1, rfl, P8, Eb1, Vb1, Cb1, Nb1, Mb1, P9⟩ := P13
  show Run p e below _ T (mkF m 33 #[.val (.ref b), .val (.ref x), .val (.int (Int32.ofNat (ds).length))] [])
  refine s_aload_n w (hb hby dasa01_33) rfl rfl (pc' := 34) rfl ?_
  refine s_dup w (hb hby dasa01_34) rfl (pc' := 35) rfl ?_
  refine w_getF w (hw _ (List.mem_of_getElem? (i := 99) rfl)) Via.refl Nb1 (hb hby dasa01_35) (pc' := 38) rfl fun T w => ?_
  refine s_iload_n w (hb hby dasa01_38) rfl (pc' := 39) rfl ?_
  refine s_iadd w (hb hby dasa01_39) (pc' := 40) rfl ?_
  rw [hcx, ← List.length_append]
  refine w_putF w (hw _ (List.mem_of_getElem? (i := 99) rfl)) Via.refl Nb1 Eb1 (Or.inl (hw _ (List.mem_of_getElem? (i := 100) rfl))) (hw _ (List.mem_of_getElem? (i := 62) rfl)) (ty := .int) (by decide) rfl rfl (hb hby dasa01_40) (Or.inl (List.mem_of_getElem? (i := 0) rfl)) (Or.inl ⟨by decide, by decide⟩) (pc' := 43) rfl fun T g1 w W1 F1 Y1 => ?_
  have sv : Jvm.RoadKit.slotOf Z ASB "value" "[B" ≠ Jvm.RoadKit.slotOf Z ASB "count" "I" := slot_ne (C := SBC) (Or.inl (hw _ (List.mem_of_getElem? (i := 76) rfl))) (Or.inl (hw _ (List.mem_of_getElem? (i := 100) rfl))) (by decide) (t := .array .byte) (t' := .int) (by decide) (by decide)
  have sc : Jvm.RoadKit.slotOf Z ASB "coder" "B" ≠ Jvm.RoadKit.slotOf Z ASB "count" "I" := slot_ne (C := SBC) (Or.inl (hw _ (List.mem_of_getElem? (i := 78) rfl))) (Or.inl (hw _ (List.mem_of_getElem? (i := 100) rfl))) (by decide) (t := .byte) (t' := .int) (by decide) (by decide)
  have sm : Jvm.RoadKit.slotOf Z ASB "maybeLatin1" "Z" ≠ Jvm.RoadKit.slotOf Z ASB "count" "I" := slot_ne (C := SBC) (Or.inl (hw _ (List.mem_of_getElem? (i := 250) rfl))) (Or.inl (hw _ (List.mem_of_getElem? (i := 100) rfl))) (by decide) (t := .boolean) (t' := .int) (by decide) (by decide)
  refine s_aload_n w (hb hby dasa01_43) rfl rfl (pc' := 44) rfl ?_
  exact w_areturnN w hEL hs hlk hret rfl rfl (hb hby dasa01_44) (by decide) (by decide) (N := [t1]) (allP (List.mem_cons_self ..)) ⟨rfl, t1, k1, rfl, Or.inr P8, Y1, Vb1.other W1 (Or.inr sv), Cb1.other W1 (Or.inr sc), F1, Mb1.other W1 (Or.inr sm), P9.other W1 (Exa.neArv Eb1 P9 (hw _ (List.mem_of_getElem? (i := 62) rfl))).symm, ⟨fun c q => (List.mem_append.mp q).elim (fun z => lat_chr (hcs c z)) (hds.1 c), hds.2.elim fun c q => ⟨c, List.mem_append.mpr (Or.inr q.1), q.2⟩⟩, by rw [List.length_append]; exact hfit⟩
theorem dapp01_0 : decode jdk_67_method_7_code 0 = .ok (.aload_n 0, 1) := by decide +kernel
theorem dapp01_1 : decode jdk_67_method_7_code 1 = .ok (.aload_n 1, 1) := by decide +kernel
theorem dapp01_2 : decode jdk_67_method_7_code 2 = .ok (.invokespecial 29, 3) := by decide +kernel
theorem dapp01_5 : decode jdk_67_method_7_code 5 = .ok (.pop, 1) := by decide +kernel
theorem dapp01_6 : decode jdk_67_method_7_code 6 = .ok (.aload_n 0, 1) := by decide +kernel
theorem dapp01_7 : decode jdk_67_method_7_code 7 = .ok (.areturn, 1) := by decide +kernel
theorem ef_app01 (m : MethodId) (b : Addr) (x : Addr) : entryFrame m #[.ref b, .ref x] 2 = mkF m 0 #[.val (.ref b), .val (.ref x)] [] := by first | (simp [entryFrame, mkF, argsToLocals, Value.category]; done) | rfl
set_option maxRecDepth 65536 in
set_option maxHeartbeats 40000000 in
theorem rm_app01 {l : Launch} {Z : State} {a0 : Array Value} {zc : Int32} {fm : Value} (G : Gl Z a0 zc fm) (h : Heap) (b : Addr) (x : Addr) (t tx : Addr) (kt kx : ClassId) (cs ds : List Int32) (B0 : Sb0 Z h b t kt cs) (X0 : S1 Z h x tx kx ds) (hfit : cs.length + ds.length ≤ 16) (hnt : tx ≠ t) :
    MetN l Z consts_1 (⟨"java/lang/StringBuilder", "append", "(Ljava/lang/String;)Ljava/lang/StringBuilder;"⟩ : MethodName) jdk_67_method_7_code 2 (some (.object "java/lang/StringBuilder")) ({ frames := 9, cells := 1, slots := 32, locals := 130 } : Room) #[.ref b, .ref x] h [t] [b, t] (fun v h' N => v = some (.ref b) ∧ ∃ t1 k1, N = [t1] ∧ (t1 = t ∨ h.size ≤ t1) ∧ Sb1 Z h' b t1 k1 (cs ++ ds)) := by
  have G0 := G
  obtain ⟨hw, hEL, SC, hz, SF, hfm, SA, SH, SL⟩ := G
  have hw1 : ∀ d ∈ StrChars.Road.words, d.before a0 Z = true := fun d q => hw d (sub1 d q)
  have hwA : ∀ d ∈ Bundle.stringAtoms, d.before a0 Z = true := fun d q => hw d (subA d q)
  refine MetN.of (plainFor_of_name pn_5) ?_
  intro p e s m below meth c T hnm hret hlk hby hml hs w
  have hZ0 := w.old
  refine Run.cast (ef_app01 m b x) ?_
  refine s_aload_n w (hb hby dapp01_0) rfl rfl (pc' := 1) rfl ?_
  refine s_aload_n w (hb hby dapp01_1) rfl rfl (pc' := 2) rfl ?_
  refine w_superN w hEL (y := (⟨"java/lang/AbstractStringBuilder", "append", "(Ljava/lang/String;)Ljava/lang/AbstractStringBuilder;"⟩ : MethodName)) (C := "java/lang/StringBuilder") (a := b) (by decide) (hw _ (List.mem_of_getElem? (i := 84) rfl)) (hw _ (List.mem_of_getElem? (i := 87) rfl)) (hw _ (List.mem_of_getElem? (i := 142) rfl)) rfl (hw _ (List.mem_of_getElem? (i := 86) rfl)) (hw _ (List.mem_of_getElem? (i := 85) rfl)) (hw _ (List.mem_of_getElem? (i := 71) rfl)) (hw _ (List.mem_of_getElem? (i := 88) rfl)) (by decide) B0.1 (rm_asa01 G0 h b x t tx kt kx cs ds B0 X0 hfit hnt) (allS (List.mem_of_getElem? (i := 0) rfl) all0) (allS (Or.inl (List.mem_of_getElem? (i := 0) rfl)) (allS (Or.inl (List.mem_of_getElem? (i := 1) rfl)) all0)) (argsL := [.ref x]) (rest := []) (lenOf (by decide +kernel : parseMethodDescriptor "(Ljava/lang/String;)Ljava/lang/AbstractStringBuilder;" = some ⟨[(.object "java/lang/String")], (some (.object "java/lang/AbstractStringBuilder"))⟩) rfl) rfl rfl (hb hby dapp01_2) (by rw [hml]; rfl) (W := 0) (Nat.le_of_eq rfl) (by decide) (by decide) (by decide) (by decide) (pc' := 5) rfl fun u1 N2 T h3 w K4 P5 => ?_
  obtain ⟨rfl, t1, k1, rfl, P8, P9⟩ := P5
  show Run p e below _ T (mkF m 5 #[.val (.ref b), .val (.ref x)] [.ref b])
  refine s_pop w (hb hby dapp01_5) rfl (pc' := 6) rfl ?_
  refine s_aload_n w (hb hby dapp01_6) rfl rfl (pc' := 7) rfl ?_
  exact w_areturnN w hEL hs hlk hret rfl rfl (hb hby dapp01_7) (by decide) (by decide) (N := [t1]) (allP (List.mem_cons_self ..)) ⟨rfl, t1, k1, rfl, P8, P9⟩
theorem dasa10_0 : decode jdk_68_method_22_code 0 = .ok (.aload_n 1, 1) := by decide +kernel
theorem dasa10_1 : decode jdk_68_method_22_code 1 = .ok (.ifnonnull 8, 3) := by decide +kernel
theorem dasa10_4 : decode jdk_68_method_22_code 4 = .ok (.aload_n 0, 1) := by decide +kernel
theorem dasa10_5 : decode jdk_68_method_22_code 5 = .ok (.invokevirtual 204, 3) := by decide +kernel
theorem dasa10_8 : decode jdk_68_method_22_code 8 = .ok (.areturn, 1) := by decide +kernel
theorem dasa10_9 : decode jdk_68_method_22_code 9 = .ok (.aload_n 1, 1) := by decide +kernel
theorem dasa10_10 : decode jdk_68_method_22_code 10 = .ok (.invokevirtual 32, 3) := by decide +kernel
theorem dasa10_13 : decode jdk_68_method_22_code 13 = .ok (.istore_n 2, 1) := by decide +kernel
theorem dasa10_14 : decode jdk_68_method_22_code 14 = .ok (.aload_n 0, 1) := by decide +kernel
theorem dasa10_15 : decode jdk_68_method_22_code 15 = .ok (.aload_n 0, 1) := by decide +kernel
theorem dasa10_16 : decode jdk_68_method_22_code 16 = .ok (.getfield 79, 3) := by decide +kernel
theorem dasa10_19 : decode jdk_68_method_22_code 19 = .ok (.iload_n 2, 1) := by decide +kernel
theorem dasa10_20 : decode jdk_68_method_22_code 20 = .ok (.iadd, 1) := by decide +kernel
theorem dasa10_21 : decode jdk_68_method_22_code 21 = .ok (.invokevirtual 100, 3) := by decide +kernel
theorem dasa10_24 : decode jdk_68_method_22_code 24 = .ok (.aload_n 0, 1) := by decide +kernel
theorem dasa10_25 : decode jdk_68_method_22_code 25 = .ok (.aload_n 0, 1) := by decide +kernel
theorem dasa10_26 : decode jdk_68_method_22_code 26 = .ok (.getfield 79, 3) := by decide +kernel
theorem dasa10_29 : decode jdk_68_method_22_code 29 = .ok (.aload_n 1, 1) := by decide +kernel
theorem dasa10_30 : decode jdk_68_method_22_code 30 = .ok (.invokevirtual 208, 3) := by decide +kernel
theorem dasa10_33 : decode jdk_68_method_22_code 33 = .ok (.aload_n 0, 1) := by decide +kernel
theorem dasa10_34 : decode jdk_68_method_22_code 34 = .ok (.dup, 1) := by decide +kernel
theorem dasa10_35 : decode jdk_68_method_22_code 35 = .ok (.getfield 79, 3) := by decide +kernel
theorem dasa10_38 : decode jdk_68_method_22_code 38 = .ok (.iload_n 2, 1) := by decide +kernel
theorem dasa10_39 : decode jdk_68_method_22_code 39 = .ok (.iadd, 1) := by decide +kernel
theorem dasa10_40 : decode jdk_68_method_22_code 40 = .ok (.putfield 79, 3) := by decide +kernel
theorem dasa10_43 : decode jdk_68_method_22_code 43 = .ok (.aload_n 0, 1) := by decide +kernel
theorem dasa10_44 : decode jdk_68_method_22_code 44 = .ok (.areturn, 1) := by decide +kernel
theorem ef_asa10 (m : MethodId) (b : Addr) (x : Addr) : entryFrame m #[.ref b, .ref x] 3 = mkF m 0 #[.val (.ref b), .val (.ref x), .unset] [] := by first | (simp [entryFrame, mkF, argsToLocals, Value.category]; done) | rfl
set_option maxRecDepth 65536 in
set_option maxHeartbeats 40000000 in
theorem rm_asa10 {l : Launch} {Z : State} {a0 : Array Value} {zc : Int32} {fm : Value} (G : Gl Z a0 zc fm) (h : Heap) (b : Addr) (x : Addr) (t tx : Addr) (kt kx : ClassId) (cs ds : List Int32) (B0 : Sb1 Z h b t kt cs) (X0 : S0 Z h x tx kx ds) (hfit : cs.length + ds.length ≤ 16) (hnt : tx ≠ t) :
    MetN l Z consts_1 (⟨"java/lang/AbstractStringBuilder", "append", "(Ljava/lang/String;)Ljava/lang/AbstractStringBuilder;"⟩ : MethodName) jdk_68_method_22_code 3 (some (.object "java/lang/AbstractStringBuilder")) ({ frames := 7, cells := 0, slots := 0, locals := 105 } : Room) #[.ref b, .ref x] h [t] [b, t] (fun v h' N => v = some (.ref b) ∧ ∃ t1 k1, N = [t1] ∧ (t1 = t ∨ h.size ≤ t1) ∧ Sb1 Z h' b t1 k1 (cs ++ ds)) := by
  have G0 := G
  obtain ⟨hw, hEL, SC, hz, SF, hfm, SA, SH, SL⟩ := G
  have hw1 : ∀ d ∈ StrChars.Road.words, d.before a0 Z = true := fun d q => hw d (sub1 d q)
  have hwA : ∀ d ∈ Bundle.stringAtoms, d.before a0 Z = true := fun d q => hw d (subA d q)
  refine MetN.of (plainFor_of_name pn_4) ?_
  intro p e s m below meth c T hnm hret hlk hby hml hs w
  have hZ0 := w.old
  refine Run.cast (ef_asa10 m b x) ?_
  have B1 := B0
  obtain ⟨Eb, Vb, Cb, Nb, Mb, At, hcs, hcl⟩ := B0
  have X1 := X0
  have Sx := X0.str
  obtain ⟨Ex, Vx, Cx, Ax, hds, hdl⟩ := X0
  have hwL : ∀ d ∈ StrChars.Road.wordsLen, d.before a0 Z = true := fun d q => hw d (subL d q)
  have hcx : Int32.ofNat cs.length + Int32.ofNat ds.length = Int32.ofNat (cs.length + ds.length) := (Int32.ofNat_add _ _).symm
  have ntb : b ≠ t := Exa.neArv Eb At (hw _ (List.mem_of_getElem? (i := 62) rfl))
  refine s_aload_n w (hb hby dasa10_0) rfl rfl (pc' := 1) rfl ?_
  refine s_ifnonnull_yes w (hb hby dasa10_1) (by decide) (pc' := 9) rfl ?_
  refine s_aload_n w (hb hby dasa10_9) rfl rfl (pc' := 10) rfl ?_
  obtain ⟨XE, Xt, Xkb, Xcd, XN, Xvs, Xq1, Xq2, Xq3, Xq4, Xq5, Xq6⟩ := id Sx
  refine w_virtB w (y := Len.yN) (y' := Len.yN) (C := ST) (hw _ (List.mem_of_getElem? (i := 89) rfl)) (hw _ (List.mem_of_getElem? (i := 90) rfl)) (hw _ (List.mem_of_getElem? (i := 92) rfl)) (hw _ (List.mem_of_getElem? (i := 92) rfl)) (hw _ (List.mem_of_getElem? (i := 91) rfl)) (by decide) XE (Pv := fun v => v = some (.int (Int32.ofNat (ds).length))) (as' := #[.ref x]) (W := 0) (fun vm0 hZ => StrChars.Road.lenW hZ hwL (hw _ (List.mem_of_getElem? (i := 6) rfl)) XE Xq1 Xq2 Xq3 Xq4 Xq5 (SC.ext w.old) hz Xq6 (by decide) (by decide)) (argsL := []) (rest := []) (lenOf (by decide +kernel : parseMethodDescriptor "()I" = some ⟨[], (some .int)⟩) rfl) rfl rfl (hb hby dasa10_10) (by rw [hml]; rfl) (Nat.le_of_eq rfl) (by decide) (by decide) (pc' := 13) rfl fun u1 T w P2 => ?_
  obtain rfl := P2
  show Run p e below _ T (mkF m 13 #[.val (.ref b), .val (.ref x), .unset] [.int (Int32.ofNat (ds).length)])
  refine s_istore_n w #[.val (.ref b), .val (.ref x), .val (.int (Int32.ofNat (ds).length))] (hb hby dasa10_13) rfl (pc' := 14) rfl ?_
  refine s_aload_n w (hb hby dasa10_14) rfl rfl (pc' := 15) rfl ?_
  refine s_aload_n w (hb hby dasa10_15) rfl rfl (pc' := 16) rfl ?_
  refine w_getF w (hw _ (List.mem_of_getElem? (i := 99) rfl)) Via.refl Nb (hb hby dasa10_16) (pc' := 19) rfl fun T w => ?_
  refine s_iload_n w (hb hby dasa10_19) rfl (pc' := 20) rfl ?_
  refine s_iadd w (hb hby dasa10_20) (pc' := 21) rfl ?_
  refine w_privateN w hEL (y := (⟨"java/lang/AbstractStringBuilder", "ensureCapacityInternal", "(I)V"⟩ : MethodName)) (C := "java/lang/StringBuilder") (a := b) (hw _ (List.mem_of_getElem? (i := 101) rfl)) (hw _ (List.mem_of_getElem? (i := 142) rfl)) rfl (hw _ (List.mem_of_getElem? (i := 103) rfl)) (hw _ (List.mem_of_getElem? (i := 102) rfl)) (hw _ (List.mem_of_getElem? (i := 71) rfl)) (hw _ (List.mem_of_getElem? (i := 105) rfl)) (by decide) Eb (rm_eci1 G0 h b _ t kt (cs.length + ds.length) cs hcx hfit B1) all0 all0 (argsL := [.int ((Int32.ofNat cs.length) + (Int32.ofNat (ds).length))]) (rest := []) (lenOf (by decide +kernel : parseMethodDescriptor "(I)V" = some ⟨[.int], none⟩) rfl) rfl rfl (hb hby dasa10_21) (by rw [hml]; rfl) (W := 0) (Nat.le_of_eq rfl) (by decide) (by decide) (by decide) (by decide) (pc' := 24) rfl fun u3 N4 T h5 w K6 P7 => ?_
  obtain ⟨rfl, P8⟩ := P7
  obtain ⟨rfl, rfl⟩ := P8
  show Run p e below _ T (mkF m 24 #[.val (.ref b), .val (.ref x), .val (.int (Int32.ofNat (ds).length))] [])
  refine s_aload_n w (hb hby dasa10_24) rfl rfl (pc' := 25) rfl ?_
  refine s_aload_n w (hb hby dasa10_25) rfl rfl (pc' := 26) rfl ?_
  refine w_getF w (hw _ (List.mem_of_getElem? (i := 99) rfl)) Via.refl Nb (hb hby dasa10_26) (pc' := 29) rfl fun T w => ?_
  refine s_aload_n w (hb hby dasa10_29) rfl rfl (pc' := 30) rfl ?_
  refine w_privateN w hEL (y := (⟨"java/lang/AbstractStringBuilder", "putStringAt", "(ILjava/lang/String;)V"⟩ : MethodName)) (C := "java/lang/StringBuilder") (a := b) (hw _ (List.mem_of_getElem? (i := 106) rfl)) (hw _ (List.mem_of_getElem? (i := 142) rfl)) rfl (hw _ (List.mem_of_getElem? (i := 108) rfl)) (hw _ (List.mem_of_getElem? (i := 107) rfl)) (hw _ (List.mem_of_getElem? (i := 71) rfl)) (hw _ (List.mem_of_getElem? (i := 110) rfl)) (by decide) Eb (rm_psa10 G0 h b _ x t tx kt kx cs ds B1 X1 rfl hfit hnt) (allS (List.mem_of_getElem? (i := 0) rfl) all0) (allS (Or.inl (List.mem_of_getElem? (i := 1) rfl)) all0) (argsL := [.int (Int32.ofNat cs.length), .ref x]) (rest := []) (lenOf (by decide +kernel : parseMethodDescriptor "(ILjava/lang/String;)V" = some ⟨[.int, (.object "java/lang/String")], none⟩) rfl) rfl rfl (hb hby dasa10_30) (by rw [hml]; rfl) (W := 0) (Nat.le_of_eq rfl) (by decide) (by decide) (by decide) (by decide) (pc' := 33) rfl fun u9 N10 T h11 w K12 P13 => ?_
  obtain ⟨rfl, P14⟩ := P13
  obtain ⟨rfl, P9⟩ := P14
  have Vb1 := Vb.keep K12 (ninS ntb nin0)
  have Cb1 := Cb.keep K12 (ninS ntb nin0)
  have Nb1 := Nb.keep K12 (ninS ntb nin0)
  have Mb1 := Mb.keep K12 (ninS ntb nin0)
  have Eb1 := Eb.keep K12
  show Run p e below _ T (mkF m 33 #[.val (.ref b), .val (.ref x), .val (.int (Int32.ofNat (ds).length))] [])
  refine s_aload_n w (hb hby dasa10_33) rfl rfl (pc' := 34) rfl ?_
  refine s_dup w (hb hby dasa10_34) rfl (pc' := 35) rfl ?_
  refine w_getF w (hw _ (List.mem_of_getElem? (i := 99) rfl)) Via.refl Nb1 (hb hby dasa10_35) (pc' := 38) rfl fun T w => ?_
  refine s_iload_n w (hb hby dasa10_38) rfl (pc' := 39) rfl ?_
  refine s_iadd w (hb hby dasa10_39) (pc' := 40) rfl ?_
  rw [hcx, ← List.length_append]
  refine w_putF w (hw _ (List.mem_of_getElem? (i := 99) rfl)) Via.refl Nb1 Eb1 (Or.inl (hw _ (List.mem_of_getElem? (i := 100) rfl))) (hw _ (List.mem_of_getElem? (i := 62) rfl)) (ty := .int) (by decide) rfl rfl (hb hby dasa10_40) (Or.inl (List.mem_of_getElem? (i := 0) rfl)) (Or.inl ⟨by decide, by decide⟩) (pc' := 43) rfl fun T g1 w W1 F1 Y1 => ?_
  have sv : Jvm.RoadKit.slotOf Z ASB "value" "[B" ≠ Jvm.RoadKit.slotOf Z ASB "count" "I" := slot_ne (C := SBC) (Or.inl (hw _ (List.mem_of_getElem? (i := 76) rfl))) (Or.inl (hw _ (List.mem_of_getElem? (i := 100) rfl))) (by decide) (t := .array .byte) (t' := .int) (by decide) (by decide)
  have sc : Jvm.RoadKit.slotOf Z ASB "coder" "B" ≠ Jvm.RoadKit.slotOf Z ASB "count" "I" := slot_ne (C := SBC) (Or.inl (hw _ (List.mem_of_getElem? (i := 78) rfl))) (Or.inl (hw _ (List.mem_of_getElem? (i := 100) rfl))) (by decide) (t := .byte) (t' := .int) (by decide) (by decide)
  have sm : Jvm.RoadKit.slotOf Z ASB "maybeLatin1" "Z" ≠ Jvm.RoadKit.slotOf Z ASB "count" "I" := slot_ne (C := SBC) (Or.inl (hw _ (List.mem_of_getElem? (i := 250) rfl))) (Or.inl (hw _ (List.mem_of_getElem? (i := 100) rfl))) (by decide) (t := .boolean) (t' := .int) (by decide) (by decide)
  refine s_aload_n w (hb hby dasa10_43) rfl rfl (pc' := 44) rfl ?_
  exact w_areturnN w hEL hs hlk hret rfl rfl (hb hby dasa10_44) (by decide) (by decide) (N := [t]) (allP (List.mem_cons_self ..)) ⟨rfl, t, kt, rfl, Or.inl rfl, Y1, Vb1.other W1 (Or.inr sv), Cb1.other W1 (Or.inr sc), F1, Mb1.other W1 (Or.inr sm), P9.other W1 (Exa.neArv Eb1 P9 (hw _ (List.mem_of_getElem? (i := 62) rfl))).symm, ⟨fun c q => (List.mem_append.mp q).elim (hcs.1 c) (fun z => lat_chr (hds c z)), hcs.2.elim fun c q => ⟨c, List.mem_append.mpr (Or.inl q.1), q.2⟩⟩, by rw [List.length_append]; exact hfit⟩
theorem dapp10_0 : decode jdk_67_method_7_code 0 = .ok (.aload_n 0, 1) := by decide +kernel
theorem dapp10_1 : decode jdk_67_method_7_code 1 = .ok (.aload_n 1, 1) := by decide +kernel
theorem dapp10_2 : decode jdk_67_method_7_code 2 = .ok (.invokespecial 29, 3) := by decide +kernel
theorem dapp10_5 : decode jdk_67_method_7_code 5 = .ok (.pop, 1) := by decide +kernel
theorem dapp10_6 : decode jdk_67_method_7_code 6 = .ok (.aload_n 0, 1) := by decide +kernel
theorem dapp10_7 : decode jdk_67_method_7_code 7 = .ok (.areturn, 1) := by decide +kernel
theorem ef_app10 (m : MethodId) (b : Addr) (x : Addr) : entryFrame m #[.ref b, .ref x] 2 = mkF m 0 #[.val (.ref b), .val (.ref x)] [] := by first | (simp [entryFrame, mkF, argsToLocals, Value.category]; done) | rfl
set_option maxRecDepth 65536 in
set_option maxHeartbeats 40000000 in
theorem rm_app10 {l : Launch} {Z : State} {a0 : Array Value} {zc : Int32} {fm : Value} (G : Gl Z a0 zc fm) (h : Heap) (b : Addr) (x : Addr) (t tx : Addr) (kt kx : ClassId) (cs ds : List Int32) (B0 : Sb1 Z h b t kt cs) (X0 : S0 Z h x tx kx ds) (hfit : cs.length + ds.length ≤ 16) (hnt : tx ≠ t) :
    MetN l Z consts_1 (⟨"java/lang/StringBuilder", "append", "(Ljava/lang/String;)Ljava/lang/StringBuilder;"⟩ : MethodName) jdk_67_method_7_code 2 (some (.object "java/lang/StringBuilder")) ({ frames := 8, cells := 0, slots := 0, locals := 119 } : Room) #[.ref b, .ref x] h [t] [b, t] (fun v h' N => v = some (.ref b) ∧ ∃ t1 k1, N = [t1] ∧ (t1 = t ∨ h.size ≤ t1) ∧ Sb1 Z h' b t1 k1 (cs ++ ds)) := by
  have G0 := G
  obtain ⟨hw, hEL, SC, hz, SF, hfm, SA, SH, SL⟩ := G
  have hw1 : ∀ d ∈ StrChars.Road.words, d.before a0 Z = true := fun d q => hw d (sub1 d q)
  have hwA : ∀ d ∈ Bundle.stringAtoms, d.before a0 Z = true := fun d q => hw d (subA d q)
  refine MetN.of (plainFor_of_name pn_5) ?_
  intro p e s m below meth c T hnm hret hlk hby hml hs w
  have hZ0 := w.old
  refine Run.cast (ef_app10 m b x) ?_
  refine s_aload_n w (hb hby dapp10_0) rfl rfl (pc' := 1) rfl ?_
  refine s_aload_n w (hb hby dapp10_1) rfl rfl (pc' := 2) rfl ?_
  refine w_superN w hEL (y := (⟨"java/lang/AbstractStringBuilder", "append", "(Ljava/lang/String;)Ljava/lang/AbstractStringBuilder;"⟩ : MethodName)) (C := "java/lang/StringBuilder") (a := b) (by decide) (hw _ (List.mem_of_getElem? (i := 84) rfl)) (hw _ (List.mem_of_getElem? (i := 87) rfl)) (hw _ (List.mem_of_getElem? (i := 142) rfl)) rfl (hw _ (List.mem_of_getElem? (i := 86) rfl)) (hw _ (List.mem_of_getElem? (i := 85) rfl)) (hw _ (List.mem_of_getElem? (i := 71) rfl)) (hw _ (List.mem_of_getElem? (i := 88) rfl)) (by decide) B0.1 (rm_asa10 G0 h b x t tx kt kx cs ds B0 X0 hfit hnt) (allS (List.mem_of_getElem? (i := 0) rfl) all0) (allS (Or.inl (List.mem_of_getElem? (i := 0) rfl)) (allS (Or.inl (List.mem_of_getElem? (i := 1) rfl)) all0)) (argsL := [.ref x]) (rest := []) (lenOf (by decide +kernel : parseMethodDescriptor "(Ljava/lang/String;)Ljava/lang/AbstractStringBuilder;" = some ⟨[(.object "java/lang/String")], (some (.object "java/lang/AbstractStringBuilder"))⟩) rfl) rfl rfl (hb hby dapp10_2) (by rw [hml]; rfl) (W := 0) (Nat.le_of_eq rfl) (by decide) (by decide) (by decide) (by decide) (pc' := 5) rfl fun u1 N2 T h3 w K4 P5 => ?_
  obtain ⟨rfl, t1, k1, rfl, P8, P9⟩ := P5
  show Run p e below _ T (mkF m 5 #[.val (.ref b), .val (.ref x)] [.ref b])
  refine s_pop w (hb hby dapp10_5) rfl (pc' := 6) rfl ?_
  refine s_aload_n w (hb hby dapp10_6) rfl rfl (pc' := 7) rfl ?_
  exact w_areturnN w hEL hs hlk hret rfl rfl (hb hby dapp10_7) (by decide) (by decide) (N := [t1]) (allP (List.mem_cons_self ..)) ⟨rfl, t1, k1, rfl, P8, P9⟩
theorem dasa11_0 : decode jdk_68_method_22_code 0 = .ok (.aload_n 1, 1) := by decide +kernel
theorem dasa11_1 : decode jdk_68_method_22_code 1 = .ok (.ifnonnull 8, 3) := by decide +kernel
theorem dasa11_4 : decode jdk_68_method_22_code 4 = .ok (.aload_n 0, 1) := by decide +kernel
theorem dasa11_5 : decode jdk_68_method_22_code 5 = .ok (.invokevirtual 204, 3) := by decide +kernel
theorem dasa11_8 : decode jdk_68_method_22_code 8 = .ok (.areturn, 1) := by decide +kernel
theorem dasa11_9 : decode jdk_68_method_22_code 9 = .ok (.aload_n 1, 1) := by decide +kernel
theorem dasa11_10 : decode jdk_68_method_22_code 10 = .ok (.invokevirtual 32, 3) := by decide +kernel
theorem dasa11_13 : decode jdk_68_method_22_code 13 = .ok (.istore_n 2, 1) := by decide +kernel
theorem dasa11_14 : decode jdk_68_method_22_code 14 = .ok (.aload_n 0, 1) := by decide +kernel
theorem dasa11_15 : decode jdk_68_method_22_code 15 = .ok (.aload_n 0, 1) := by decide +kernel
theorem dasa11_16 : decode jdk_68_method_22_code 16 = .ok (.getfield 79, 3) := by decide +kernel
theorem dasa11_19 : decode jdk_68_method_22_code 19 = .ok (.iload_n 2, 1) := by decide +kernel
theorem dasa11_20 : decode jdk_68_method_22_code 20 = .ok (.iadd, 1) := by decide +kernel
theorem dasa11_21 : decode jdk_68_method_22_code 21 = .ok (.invokevirtual 100, 3) := by decide +kernel
theorem dasa11_24 : decode jdk_68_method_22_code 24 = .ok (.aload_n 0, 1) := by decide +kernel
theorem dasa11_25 : decode jdk_68_method_22_code 25 = .ok (.aload_n 0, 1) := by decide +kernel
theorem dasa11_26 : decode jdk_68_method_22_code 26 = .ok (.getfield 79, 3) := by decide +kernel
theorem dasa11_29 : decode jdk_68_method_22_code 29 = .ok (.aload_n 1, 1) := by decide +kernel
theorem dasa11_30 : decode jdk_68_method_22_code 30 = .ok (.invokevirtual 208, 3) := by decide +kernel
theorem dasa11_33 : decode jdk_68_method_22_code 33 = .ok (.aload_n 0, 1) := by decide +kernel
theorem dasa11_34 : decode jdk_68_method_22_code 34 = .ok (.dup, 1) := by decide +kernel
theorem dasa11_35 : decode jdk_68_method_22_code 35 = .ok (.getfield 79, 3) := by decide +kernel
theorem dasa11_38 : decode jdk_68_method_22_code 38 = .ok (.iload_n 2, 1) := by decide +kernel
theorem dasa11_39 : decode jdk_68_method_22_code 39 = .ok (.iadd, 1) := by decide +kernel
theorem dasa11_40 : decode jdk_68_method_22_code 40 = .ok (.putfield 79, 3) := by decide +kernel
theorem dasa11_43 : decode jdk_68_method_22_code 43 = .ok (.aload_n 0, 1) := by decide +kernel
theorem dasa11_44 : decode jdk_68_method_22_code 44 = .ok (.areturn, 1) := by decide +kernel
theorem ef_asa11 (m : MethodId) (b : Addr) (x : Addr) : entryFrame m #[.ref b, .ref x] 3 = mkF m 0 #[.val (.ref b), .val (.ref x), .unset] [] := by first | (simp [entryFrame, mkF, argsToLocals, Value.category]; done) | rfl
set_option maxRecDepth 65536 in
set_option maxHeartbeats 40000000 in
theorem rm_asa11 {l : Launch} {Z : State} {a0 : Array Value} {zc : Int32} {fm : Value} (G : Gl Z a0 zc fm) (h : Heap) (b : Addr) (x : Addr) (t tx : Addr) (kt kx : ClassId) (cs ds : List Int32) (B0 : Sb1 Z h b t kt cs) (X0 : S1 Z h x tx kx ds) (hfit : cs.length + ds.length ≤ 16) (hnt : tx ≠ t) :
    MetN l Z consts_1 (⟨"java/lang/AbstractStringBuilder", "append", "(Ljava/lang/String;)Ljava/lang/AbstractStringBuilder;"⟩ : MethodName) jdk_68_method_22_code 3 (some (.object "java/lang/AbstractStringBuilder")) ({ frames := 3, cells := 0, slots := 0, locals := 69 } : Room) #[.ref b, .ref x] h [t] [b, t] (fun v h' N => v = some (.ref b) ∧ ∃ t1 k1, N = [t1] ∧ (t1 = t ∨ h.size ≤ t1) ∧ Sb1 Z h' b t1 k1 (cs ++ ds)) := by
  have G0 := G
  obtain ⟨hw, hEL, SC, hz, SF, hfm, SA, SH, SL⟩ := G
  have hw1 : ∀ d ∈ StrChars.Road.words, d.before a0 Z = true := fun d q => hw d (sub1 d q)
  have hwA : ∀ d ∈ Bundle.stringAtoms, d.before a0 Z = true := fun d q => hw d (subA d q)
  refine MetN.of (plainFor_of_name pn_4) ?_
  intro p e s m below meth c T hnm hret hlk hby hml hs w
  have hZ0 := w.old
  refine Run.cast (ef_asa11 m b x) ?_
  have B1 := B0
  obtain ⟨Eb, Vb, Cb, Nb, Mb, At, hcs, hcl⟩ := B0
  have X1 := X0
  have Sx := X0.str
  obtain ⟨Ex, Vx, Cx, Ax, hds, hdl⟩ := X0
  have hwL : ∀ d ∈ StrChars.Road.wordsLen, d.before a0 Z = true := fun d q => hw d (subL d q)
  have hcx : Int32.ofNat cs.length + Int32.ofNat ds.length = Int32.ofNat (cs.length + ds.length) := (Int32.ofNat_add _ _).symm
  have ntb : b ≠ t := Exa.neArv Eb At (hw _ (List.mem_of_getElem? (i := 62) rfl))
  refine s_aload_n w (hb hby dasa11_0) rfl rfl (pc' := 1) rfl ?_
  refine s_ifnonnull_yes w (hb hby dasa11_1) (by decide) (pc' := 9) rfl ?_
  refine s_aload_n w (hb hby dasa11_9) rfl rfl (pc' := 10) rfl ?_
  obtain ⟨XE, Xt, Xkb, Xcd, XN, Xvs, Xq1, Xq2, Xq3, Xq4, Xq5, Xq6⟩ := id Sx
  refine w_virtB w (y := Len.yN) (y' := Len.yN) (C := ST) (hw _ (List.mem_of_getElem? (i := 89) rfl)) (hw _ (List.mem_of_getElem? (i := 90) rfl)) (hw _ (List.mem_of_getElem? (i := 92) rfl)) (hw _ (List.mem_of_getElem? (i := 92) rfl)) (hw _ (List.mem_of_getElem? (i := 91) rfl)) (by decide) XE (Pv := fun v => v = some (.int (Int32.ofNat (ds).length))) (as' := #[.ref x]) (W := 0) (fun vm0 hZ => StrChars.Road.lenW hZ hwL (hw _ (List.mem_of_getElem? (i := 6) rfl)) XE Xq1 Xq2 Xq3 Xq4 Xq5 (SC.ext w.old) hz Xq6 (by decide) (by decide)) (argsL := []) (rest := []) (lenOf (by decide +kernel : parseMethodDescriptor "()I" = some ⟨[], (some .int)⟩) rfl) rfl rfl (hb hby dasa11_10) (by rw [hml]; rfl) (Nat.le_of_eq rfl) (by decide) (by decide) (pc' := 13) rfl fun u1 T w P2 => ?_
  obtain rfl := P2
  show Run p e below _ T (mkF m 13 #[.val (.ref b), .val (.ref x), .unset] [.int (Int32.ofNat (ds).length)])
  refine s_istore_n w #[.val (.ref b), .val (.ref x), .val (.int (Int32.ofNat (ds).length))] (hb hby dasa11_13) rfl (pc' := 14) rfl ?_
  refine s_aload_n w (hb hby dasa11_14) rfl rfl (pc' := 15) rfl ?_
  refine s_aload_n w (hb hby dasa11_15) rfl rfl (pc' := 16) rfl ?_
  refine w_getF w (hw _ (List.mem_of_getElem? (i := 99) rfl)) Via.refl Nb (hb hby dasa11_16) (pc' := 19) rfl fun T w => ?_
  refine s_iload_n w (hb hby dasa11_19) rfl (pc' := 20) rfl ?_
  refine s_iadd w (hb hby dasa11_20) (pc' := 21) rfl ?_
  refine w_privateN w hEL (y := (⟨"java/lang/AbstractStringBuilder", "ensureCapacityInternal", "(I)V"⟩ : MethodName)) (C := "java/lang/StringBuilder") (a := b) (hw _ (List.mem_of_getElem? (i := 101) rfl)) (hw _ (List.mem_of_getElem? (i := 142) rfl)) rfl (hw _ (List.mem_of_getElem? (i := 103) rfl)) (hw _ (List.mem_of_getElem? (i := 102) rfl)) (hw _ (List.mem_of_getElem? (i := 71) rfl)) (hw _ (List.mem_of_getElem? (i := 105) rfl)) (by decide) Eb (rm_eci1 G0 h b _ t kt (cs.length + ds.length) cs hcx hfit B1) all0 all0 (argsL := [.int ((Int32.ofNat cs.length) + (Int32.ofNat (ds).length))]) (rest := []) (lenOf (by decide +kernel : parseMethodDescriptor "(I)V" = some ⟨[.int], none⟩) rfl) rfl rfl (hb hby dasa11_21) (by rw [hml]; rfl) (W := 0) (Nat.le_of_eq rfl) (by decide) (by decide) (by decide) (by decide) (pc' := 24) rfl fun u3 N4 T h5 w K6 P7 => ?_
  obtain ⟨rfl, P8⟩ := P7
  obtain ⟨rfl, rfl⟩ := P8
  show Run p e below _ T (mkF m 24 #[.val (.ref b), .val (.ref x), .val (.int (Int32.ofNat (ds).length))] [])
  refine s_aload_n w (hb hby dasa11_24) rfl rfl (pc' := 25) rfl ?_
  refine s_aload_n w (hb hby dasa11_25) rfl rfl (pc' := 26) rfl ?_
  refine w_getF w (hw _ (List.mem_of_getElem? (i := 99) rfl)) Via.refl Nb (hb hby dasa11_26) (pc' := 29) rfl fun T w => ?_
  refine s_aload_n w (hb hby dasa11_29) rfl rfl (pc' := 30) rfl ?_
  refine w_privateN w hEL (y := (⟨"java/lang/AbstractStringBuilder", "putStringAt", "(ILjava/lang/String;)V"⟩ : MethodName)) (C := "java/lang/StringBuilder") (a := b) (hw _ (List.mem_of_getElem? (i := 106) rfl)) (hw _ (List.mem_of_getElem? (i := 142) rfl)) rfl (hw _ (List.mem_of_getElem? (i := 108) rfl)) (hw _ (List.mem_of_getElem? (i := 107) rfl)) (hw _ (List.mem_of_getElem? (i := 71) rfl)) (hw _ (List.mem_of_getElem? (i := 110) rfl)) (by decide) Eb (rm_psa11 G0 h b _ x t tx kt kx cs ds B1 X1 rfl hfit hnt) (allS (List.mem_of_getElem? (i := 0) rfl) all0) (allS (Or.inl (List.mem_of_getElem? (i := 1) rfl)) all0) (argsL := [.int (Int32.ofNat cs.length), .ref x]) (rest := []) (lenOf (by decide +kernel : parseMethodDescriptor "(ILjava/lang/String;)V" = some ⟨[.int, (.object "java/lang/String")], none⟩) rfl) rfl rfl (hb hby dasa11_30) (by rw [hml]; rfl) (W := 0) (Nat.le_of_eq rfl) (by decide) (by decide) (by decide) (by decide) (pc' := 33) rfl fun u9 N10 T h11 w K12 P13 => ?_
  obtain ⟨rfl, P14⟩ := P13
  obtain ⟨rfl, P9⟩ := P14
  have Vb1 := Vb.keep K12 (ninS ntb nin0)
  have Cb1 := Cb.keep K12 (ninS ntb nin0)
  have Nb1 := Nb.keep K12 (ninS ntb nin0)
  have Mb1 := Mb.keep K12 (ninS ntb nin0)
  have Eb1 := Eb.keep K12
  show Run p e below _ T (mkF m 33 #[.val (.ref b), .val (.ref x), .val (.int (Int32.ofNat (ds).length))] [])
  refine s_aload_n w (hb hby dasa11_33) rfl rfl (pc' := 34) rfl ?_
  refine s_dup w (hb hby dasa11_34) rfl (pc' := 35) rfl ?_
  refine w_getF w (hw _ (List.mem_of_getElem? (i := 99) rfl)) Via.refl Nb1 (hb hby dasa11_35) (pc' := 38) rfl fun T w => ?_
  refine s_iload_n w (hb hby dasa11_38) rfl (pc' := 39) rfl ?_
  refine s_iadd w (hb hby dasa11_39) (pc' := 40) rfl ?_
  rw [hcx, ← List.length_append]
  refine w_putF w (hw _ (List.mem_of_getElem? (i := 99) rfl)) Via.refl Nb1 Eb1 (Or.inl (hw _ (List.mem_of_getElem? (i := 100) rfl))) (hw _ (List.mem_of_getElem? (i := 62) rfl)) (ty := .int) (by decide) rfl rfl (hb hby dasa11_40) (Or.inl (List.mem_of_getElem? (i := 0) rfl)) (Or.inl ⟨by decide, by decide⟩) (pc' := 43) rfl fun T g1 w W1 F1 Y1 => ?_
  have sv : Jvm.RoadKit.slotOf Z ASB "value" "[B" ≠ Jvm.RoadKit.slotOf Z ASB "count" "I" := slot_ne (C := SBC) (Or.inl (hw _ (List.mem_of_getElem? (i := 76) rfl))) (Or.inl (hw _ (List.mem_of_getElem? (i := 100) rfl))) (by decide) (t := .array .byte) (t' := .int) (by decide) (by decide)
  have sc : Jvm.RoadKit.slotOf Z ASB "coder" "B" ≠ Jvm.RoadKit.slotOf Z ASB "count" "I" := slot_ne (C := SBC) (Or.inl (hw _ (List.mem_of_getElem? (i := 78) rfl))) (Or.inl (hw _ (List.mem_of_getElem? (i := 100) rfl))) (by decide) (t := .byte) (t' := .int) (by decide) (by decide)
  have sm : Jvm.RoadKit.slotOf Z ASB "maybeLatin1" "Z" ≠ Jvm.RoadKit.slotOf Z ASB "count" "I" := slot_ne (C := SBC) (Or.inl (hw _ (List.mem_of_getElem? (i := 250) rfl))) (Or.inl (hw _ (List.mem_of_getElem? (i := 100) rfl))) (by decide) (t := .boolean) (t' := .int) (by decide) (by decide)
  refine s_aload_n w (hb hby dasa11_43) rfl rfl (pc' := 44) rfl ?_
  exact w_areturnN w hEL hs hlk hret rfl rfl (hb hby dasa11_44) (by decide) (by decide) (N := [t]) (allP (List.mem_cons_self ..)) ⟨rfl, t, kt, rfl, Or.inl rfl, Y1, Vb1.other W1 (Or.inr sv), Cb1.other W1 (Or.inr sc), F1, Mb1.other W1 (Or.inr sm), P9.other W1 (Exa.neArv Eb1 P9 (hw _ (List.mem_of_getElem? (i := 62) rfl))).symm, ⟨fun c q => (List.mem_append.mp q).elim (hcs.1 c) (hds.1 c), hcs.2.elim fun c q => ⟨c, List.mem_append.mpr (Or.inl q.1), q.2⟩⟩, by rw [List.length_append]; exact hfit⟩
theorem dapp11_0 : decode jdk_67_method_7_code 0 = .ok (.aload_n 0, 1) := by decide +kernel
theorem dapp11_1 : decode jdk_67_method_7_code 1 = .ok (.aload_n 1, 1) := by decide +kernel
theorem dapp11_2 : decode jdk_67_method_7_code 2 = .ok (.invokespecial 29, 3) := by decide +kernel
theorem dapp11_5 : decode jdk_67_method_7_code 5 = .ok (.pop, 1) := by decide +kernel
theorem dapp11_6 : decode jdk_67_method_7_code 6 = .ok (.aload_n 0, 1) := by decide +kernel
theorem dapp11_7 : decode jdk_67_method_7_code 7 = .ok (.areturn, 1) := by decide +kernel
theorem ef_app11 (m : MethodId) (b : Addr) (x : Addr) : entryFrame m #[.ref b, .ref x] 2 = mkF m 0 #[.val (.ref b), .val (.ref x)] [] := by first | (simp [entryFrame, mkF, argsToLocals, Value.category]; done) | rfl
set_option maxRecDepth 65536 in
set_option maxHeartbeats 40000000 in
theorem rm_app11 {l : Launch} {Z : State} {a0 : Array Value} {zc : Int32} {fm : Value} (G : Gl Z a0 zc fm) (h : Heap) (b : Addr) (x : Addr) (t tx : Addr) (kt kx : ClassId) (cs ds : List Int32) (B0 : Sb1 Z h b t kt cs) (X0 : S1 Z h x tx kx ds) (hfit : cs.length + ds.length ≤ 16) (hnt : tx ≠ t) :
    MetN l Z consts_1 (⟨"java/lang/StringBuilder", "append", "(Ljava/lang/String;)Ljava/lang/StringBuilder;"⟩ : MethodName) jdk_67_method_7_code 2 (some (.object "java/lang/StringBuilder")) ({ frames := 4, cells := 0, slots := 0, locals := 83 } : Room) #[.ref b, .ref x] h [t] [b, t] (fun v h' N => v = some (.ref b) ∧ ∃ t1 k1, N = [t1] ∧ (t1 = t ∨ h.size ≤ t1) ∧ Sb1 Z h' b t1 k1 (cs ++ ds)) := by
  have G0 := G
  obtain ⟨hw, hEL, SC, hz, SF, hfm, SA, SH, SL⟩ := G
  have hw1 : ∀ d ∈ StrChars.Road.words, d.before a0 Z = true := fun d q => hw d (sub1 d q)
  have hwA : ∀ d ∈ Bundle.stringAtoms, d.before a0 Z = true := fun d q => hw d (subA d q)
  refine MetN.of (plainFor_of_name pn_5) ?_
  intro p e s m below meth c T hnm hret hlk hby hml hs w
  have hZ0 := w.old
  refine Run.cast (ef_app11 m b x) ?_
  refine s_aload_n w (hb hby dapp11_0) rfl rfl (pc' := 1) rfl ?_
  refine s_aload_n w (hb hby dapp11_1) rfl rfl (pc' := 2) rfl ?_
  refine w_superN w hEL (y := (⟨"java/lang/AbstractStringBuilder", "append", "(Ljava/lang/String;)Ljava/lang/AbstractStringBuilder;"⟩ : MethodName)) (C := "java/lang/StringBuilder") (a := b) (by decide) (hw _ (List.mem_of_getElem? (i := 84) rfl)) (hw _ (List.mem_of_getElem? (i := 87) rfl)) (hw _ (List.mem_of_getElem? (i := 142) rfl)) rfl (hw _ (List.mem_of_getElem? (i := 86) rfl)) (hw _ (List.mem_of_getElem? (i := 85) rfl)) (hw _ (List.mem_of_getElem? (i := 71) rfl)) (hw _ (List.mem_of_getElem? (i := 88) rfl)) (by decide) B0.1 (rm_asa11 G0 h b x t tx kt kx cs ds B0 X0 hfit hnt) (allS (List.mem_of_getElem? (i := 0) rfl) all0) (allS (Or.inl (List.mem_of_getElem? (i := 0) rfl)) (allS (Or.inl (List.mem_of_getElem? (i := 1) rfl)) all0)) (argsL := [.ref x]) (rest := []) (lenOf (by decide +kernel : parseMethodDescriptor "(Ljava/lang/String;)Ljava/lang/AbstractStringBuilder;" = some ⟨[(.object "java/lang/String")], (some (.object "java/lang/AbstractStringBuilder"))⟩) rfl) rfl rfl (hb hby dapp11_2) (by rw [hml]; rfl) (W := 0) (Nat.le_of_eq rfl) (by decide) (by decide) (by decide) (by decide) (pc' := 5) rfl fun u1 N2 T h3 w K4 P5 => ?_
  obtain ⟨rfl, t1, k1, rfl, P8, P9⟩ := P5
  show Run p e below _ T (mkF m 5 #[.val (.ref b), .val (.ref x)] [.ref b])
  refine s_pop w (hb hby dapp11_5) rfl (pc' := 6) rfl ?_
  refine s_aload_n w (hb hby dapp11_6) rfl rfl (pc' := 7) rfl ?_
  exact w_areturnN w hEL hs hlk hret rfl rfl (hb hby dapp11_7) (by decide) (by decide) (N := [t1]) (allP (List.mem_cons_self ..)) ⟨rfl, t1, k1, rfl, P8, P9⟩
theorem dabi_0 : decode jdk_68_method_2_code 0 = .ok (.aload_n 0, 1) := by decide +kernel
theorem dabi_1 : decode jdk_68_method_2_code 1 = .ok (.invokespecial 3, 3) := by decide +kernel
theorem dabi_4 : decode jdk_68_method_2_code 4 = .ok (.getstatic 18, 3) := by decide +kernel
theorem dabi_7 : decode jdk_68_method_2_code 7 = .ok (.ifCond .eq 18, 3) := by decide +kernel
theorem dabi_10 : decode jdk_68_method_2_code 10 = .ok (.aload_n 0, 1) := by decide +kernel
theorem dabi_11 : decode jdk_68_method_2_code 11 = .ok (.iload_n 1, 1) := by decide +kernel
theorem dabi_12 : decode jdk_68_method_2_code 12 = .ok (.newarray .byte, 2) := by decide +kernel
theorem dabi_14 : decode jdk_68_method_2_code 14 = .ok (.putfield 15, 3) := by decide +kernel
theorem dabi_17 : decode jdk_68_method_2_code 17 = .ok (.aload_n 0, 1) := by decide +kernel
theorem dabi_18 : decode jdk_68_method_2_code 18 = .ok (.iconst 0, 1) := by decide +kernel
theorem dabi_19 : decode jdk_68_method_2_code 19 = .ok (.putfield 22, 3) := by decide +kernel
theorem dabi_22 : decode jdk_68_method_2_code 22 = .ok (.goto 16, 3) := by decide +kernel
theorem dabi_25 : decode jdk_68_method_2_code 25 = .ok (.aload_n 0, 1) := by decide +kernel
theorem dabi_26 : decode jdk_68_method_2_code 26 = .ok (.iload_n 1, 1) := by decide +kernel
theorem dabi_27 : decode jdk_68_method_2_code 27 = .ok (.invokestatic 26, 3) := by decide +kernel
theorem dabi_30 : decode jdk_68_method_2_code 30 = .ok (.putfield 15, 3) := by decide +kernel
theorem dabi_33 : decode jdk_68_method_2_code 33 = .ok (.aload_n 0, 1) := by decide +kernel
theorem dabi_34 : decode jdk_68_method_2_code 34 = .ok (.iconst 1, 1) := by decide +kernel
theorem dabi_35 : decode jdk_68_method_2_code 35 = .ok (.putfield 22, 3) := by decide +kernel
theorem dabi_38 : decode jdk_68_method_2_code 38 = .ok (.return_, 1) := by decide +kernel
theorem ef_abi (m : MethodId) (b : Addr) : entryFrame m #[.ref b, .int 16] 2 = mkF m 0 #[.val (.ref b), .val (.int 16)] [] := by first | (simp [entryFrame, mkF, argsToLocals, Value.category]; done) | rfl
set_option maxRecDepth 65536 in
set_option maxHeartbeats 40000000 in
theorem rm_abi {l : Launch} {Z : State} {a0 : Array Value} {zc : Int32} {fm : Value} (G : Gl Z a0 zc fm) (h : Heap) (b : Addr) (v0 v1 : Value) (Eb : Exa Z h b SBC) (Vb : Fld Z h b ASB "value" "[B" v0) (Cb : Fld Z h b ASB "coder" "B" v1) (Nb : Fld Z h b ASB "count" "I" (.int 0)) (Mb : Fld Z h b ASB "maybeLatin1" "Z" (.int 0)) :
    MetN l Z consts_1 (⟨"java/lang/AbstractStringBuilder", "<init>", "(I)V"⟩ : MethodName) jdk_68_method_2_code 2 none ({ frames := 1, cells := 1, slots := 16, locals := 12 } : Room) #[.ref b, .int 16] h [] [b] (fun v h' N => v = none ∧ ∃ t kt, N = [t] ∧ h.size ≤ t ∧ Sb0 Z h' b t kt []) := by
  have G0 := G
  obtain ⟨hw, hEL, SC, hz, SF, hfm, SA, SH, SL⟩ := G
  have hw1 : ∀ d ∈ StrChars.Road.words, d.before a0 Z = true := fun d q => hw d (sub1 d q)
  have hwA : ∀ d ∈ Bundle.stringAtoms, d.before a0 Z = true := fun d q => hw d (subA d q)
  refine MetN.of (plainFor_of_name pn_4) ?_
  intro p e s m below meth c T hnm hret hlk hby hml hs w
  have hZ0 := w.old
  refine Run.cast (ef_abi m b) ?_
  refine s_aload_n w (hb hby dabi_0) rfl rfl (pc' := 1) rfl ?_
  refine w_objInit w (hw _ (List.mem_of_getElem? (i := 73) rfl)) (hw _ (List.mem_of_getElem? (i := 17) rfl)) (hw _ (List.mem_of_getElem? (i := 18) rfl)) (hb hby dabi_1) (by rw [hml]; rfl) (by decide) (W := 0) (Nat.le_of_eq rfl) (by decide) (pc' := 4) rfl fun T w => ?_
  refine w_getS w (hw _ (List.mem_of_getElem? (i := 74) rfl)) Via.refl (SC.ext w.old) (hb hby dabi_4) (pc' := 7) rfl fun T w => ?_
  refine s_if_eq w (hb hby dabi_7) (by decide) (pc1 := 10) rfl (pc2 := 25) rfl (fun ct1 => ?_) (fun ct1 => ?_)
  · skip
    refine s_aload_n w (hb hby dabi_10) rfl rfl (pc' := 11) rfl ?_
    refine s_iload_n w (hb hby dabi_11) rfl (pc' := 12) rfl ?_
    refine w_newP w (hw _ (List.mem_of_getElem? (i := 24) rfl)) rfl rfl (hb hby dabi_12) (by decide) (n := 16) (by decide) (by decide) (pc' := 14) rfl (by decide) (by decide) fun T h2 x3 k4 w E5 q6 r7 V8 => ?_
    refine w_putF w (hw _ (List.mem_of_getElem? (i := 75) rfl)) Via.refl (Vb.ext E5) (Eb.ext E5) (Or.inl (hw _ (List.mem_of_getElem? (i := 76) rfl))) (hw _ (List.mem_of_getElem? (i := 62) rfl)) (ty := (.array .byte)) (by decide) rfl rfl (hb hby dabi_14) (Or.inl (List.mem_singleton.mpr rfl)) (Or.inl ⟨by decide, by decide⟩) (pc' := 17) rfl fun T g1 w W1 F1 Y1 => ?_
    have sc : Jvm.RoadKit.slotOf Z ASB "coder" "B" ≠ Jvm.RoadKit.slotOf Z ASB "value" "[B" := slot_ne (C := SBC) (Or.inl (hw _ (List.mem_of_getElem? (i := 78) rfl))) (Or.inl (hw _ (List.mem_of_getElem? (i := 76) rfl))) (by decide) (t := .byte) (t' := .array .byte) (by decide) (by decide)
    have sn : Jvm.RoadKit.slotOf Z ASB "count" "I" ≠ Jvm.RoadKit.slotOf Z ASB "value" "[B" := slot_ne (C := SBC) (Or.inl (hw _ (List.mem_of_getElem? (i := 100) rfl))) (Or.inl (hw _ (List.mem_of_getElem? (i := 76) rfl))) (by decide) (t := .int) (t' := .array .byte) (by decide) (by decide)
    have sm : Jvm.RoadKit.slotOf Z ASB "maybeLatin1" "Z" ≠ Jvm.RoadKit.slotOf Z ASB "value" "[B" := slot_ne (C := SBC) (Or.inl (hw _ (List.mem_of_getElem? (i := 250) rfl))) (Or.inl (hw _ (List.mem_of_getElem? (i := 76) rfl))) (by decide) (t := .boolean) (t' := .array .byte) (by decide) (by decide)
    have sn2 : Jvm.RoadKit.slotOf Z ASB "count" "I" ≠ Jvm.RoadKit.slotOf Z ASB "coder" "B" := slot_ne (C := SBC) (Or.inl (hw _ (List.mem_of_getElem? (i := 100) rfl))) (Or.inl (hw _ (List.mem_of_getElem? (i := 78) rfl))) (by decide) (t := .int) (t' := .byte) (by decide) (by decide)
    have sm2 : Jvm.RoadKit.slotOf Z ASB "maybeLatin1" "Z" ≠ Jvm.RoadKit.slotOf Z ASB "coder" "B" := slot_ne (C := SBC) (Or.inl (hw _ (List.mem_of_getElem? (i := 250) rfl))) (Or.inl (hw _ (List.mem_of_getElem? (i := 78) rfl))) (by decide) (t := .boolean) (t' := .byte) (by decide) (by decide)
    refine s_aload_n w (hb hby dabi_17) rfl rfl (pc' := 18) rfl ?_
    refine s_iconst w (hb hby dabi_18) (v := 0) rfl (pc' := 19) rfl ?_
    refine w_putF w (hw _ (List.mem_of_getElem? (i := 77) rfl)) Via.refl ((Cb.ext E5).other W1 (Or.inr sc)) Y1 (Or.inl (hw _ (List.mem_of_getElem? (i := 78) rfl))) (hw _ (List.mem_of_getElem? (i := 62) rfl)) (ty := .byte) (by decide) rfl rfl (hb hby dabi_19) (Or.inl (List.mem_singleton.mpr rfl)) (Or.inl ⟨by decide, by decide⟩) (pc' := 22) rfl fun T g2 w W2 F2 Y2 => ?_
    refine s_goto w (hb hby dabi_22) (by decide) (pc' := 38) rfl ?_
    have nbt : x3 ≠ b := (Exa.neArv (Eb.ext E5) V8 (hw _ (List.mem_of_getElem? (i := 62) rfl))).symm
    exact w_returnN w hEL hs hlk hret (hb hby dabi_38) (by decide) (by decide) (N := [x3]) (allP (List.mem_cons_self ..)) ⟨rfl, x3, _, rfl, q6, Y2, F1.other W2 (Or.inr sc.symm), F2, ((Nb.ext E5).other W1 (Or.inr sn)).other W2 (Or.inr sn2), ((Mb.ext E5).other W1 (Or.inr sm)).other W2 (Or.inr sm2), by rw [room_nil]; exact (V8.other W1 nbt).other W2 nbt, (fun _ q => nomatch q), Nat.zero_le _⟩
  · exact absurd ct1 hz
theorem dsbi_0 : decode jdk_67_method_1_code 0 = .ok (.aload_n 0, 1) := by decide +kernel
theorem dsbi_1 : decode jdk_67_method_1_code 1 = .ok (.bipush 16, 2) := by decide +kernel
theorem dsbi_3 : decode jdk_67_method_1_code 3 = .ok (.invokespecial 1, 3) := by decide +kernel
theorem dsbi_6 : decode jdk_67_method_1_code 6 = .ok (.return_, 1) := by decide +kernel
theorem ef_sbi (m : MethodId) (b : Addr) : entryFrame m #[.ref b] 1 = mkF m 0 #[.val (.ref b)] [] := by first | (simp [entryFrame, mkF, argsToLocals, Value.category]; done) | rfl
set_option maxRecDepth 65536 in
set_option maxHeartbeats 40000000 in
theorem rm_sbi {l : Launch} {Z : State} {a0 : Array Value} {zc : Int32} {fm : Value} (G : Gl Z a0 zc fm) (h : Heap) (b : Addr) (v0 v1 : Value) (Eb : Exa Z h b SBC) (Vb : Fld Z h b ASB "value" "[B" v0) (Cb : Fld Z h b ASB "coder" "B" v1) (Nb : Fld Z h b ASB "count" "I" (.int 0)) (Mb : Fld Z h b ASB "maybeLatin1" "Z" (.int 0)) :
    MetN l Z consts_1 (⟨"java/lang/StringBuilder", "<init>", "()V"⟩ : MethodName) jdk_67_method_1_code 1 none ({ frames := 2, cells := 1, slots := 16, locals := 25 } : Room) #[.ref b] h [] [b] (fun v h' N => v = none ∧ ∃ t kt, N = [t] ∧ h.size ≤ t ∧ Sb0 Z h' b t kt []) := by
  have G0 := G
  obtain ⟨hw, hEL, SC, hz, SF, hfm, SA, SH, SL⟩ := G
  have hw1 : ∀ d ∈ StrChars.Road.words, d.before a0 Z = true := fun d q => hw d (sub1 d q)
  have hwA : ∀ d ∈ Bundle.stringAtoms, d.before a0 Z = true := fun d q => hw d (subA d q)
  refine MetN.of (plainFor_of_name pn_5) ?_
  intro p e s m below meth c T hnm hret hlk hby hml hs w
  have hZ0 := w.old
  refine Run.cast (ef_sbi m b) ?_
  refine s_aload_n w (hb hby dsbi_0) rfl rfl (pc' := 1) rfl ?_
  refine s_bipush w (hb hby dsbi_1) (v := 16) rfl (pc' := 3) rfl ?_
  refine w_specialN w hEL (y := (⟨"java/lang/AbstractStringBuilder", "<init>", "(I)V"⟩ : MethodName)) (a := b) rfl (hw _ (List.mem_of_getElem? (i := 67) rfl)) (hw _ (List.mem_of_getElem? (i := 68) rfl)) (hw _ (List.mem_of_getElem? (i := 71) rfl)) (hw _ (List.mem_of_getElem? (i := 72) rfl)) (by decide) (rm_abi G0 h b v0 v1 Eb Vb Cb Nb Mb) all0 (allS (Or.inl (List.mem_of_getElem? (i := 0) rfl)) all0) (argsL := [.int 16]) (rest := []) (lenOf (by decide +kernel : parseMethodDescriptor "(I)V" = some ⟨[.int], none⟩) rfl) rfl rfl (hb hby dsbi_3) (by rw [hml]; rfl) (W := 0) (Nat.le_of_eq rfl) (by decide) (by decide) (by decide) (by decide) (pc' := 6) rfl fun u1 N2 T h3 w K4 P5 => ?_
  obtain ⟨rfl, t, kt, rfl, P8, P9⟩ := P5
  show Run p e below _ T (mkF m 6 #[.val (.ref b)] [])
  exact w_returnN w hEL hs hlk hret (hb hby dsbi_6) (by decide) (by decide) (N := [t]) (allP (List.mem_cons_self ..)) ⟨rfl, t, kt, rfl, P8, P9⟩
theorem dmin_0 : decode jdk_29_method_69_code 0 = .ok (.iload_n 0, 1) := by decide +kernel
theorem dmin_1 : decode jdk_29_method_69_code 1 = .ok (.iload_n 1, 1) := by decide +kernel
theorem dmin_2 : decode jdk_29_method_69_code 2 = .ok (.if_icmp .gt 7, 3) := by decide +kernel
theorem dmin_5 : decode jdk_29_method_69_code 5 = .ok (.iload_n 0, 1) := by decide +kernel
theorem dmin_6 : decode jdk_29_method_69_code 6 = .ok (.goto 4, 3) := by decide +kernel
theorem dmin_9 : decode jdk_29_method_69_code 9 = .ok (.iload_n 1, 1) := by decide +kernel
theorem dmin_10 : decode jdk_29_method_69_code 10 = .ok (.ireturn, 1) := by decide +kernel
theorem ef_min (m : MethodId) (x : Int32) (y : Int32) : entryFrame m #[.int x, .int y] 2 = mkF m 0 #[.val (.int x), .val (.int y)] [] := by first | (simp [entryFrame, mkF, argsToLocals, Value.category]; done) | rfl
set_option maxRecDepth 65536 in
set_option maxHeartbeats 40000000 in
theorem rm_min {l : Launch} {Z : State} {a0 : Array Value} {zc : Int32} {fm : Value} (G : Gl Z a0 zc fm) (h : Heap) (x : Int32) (y : Int32)  :
    Met l Z consts_1 (⟨"java/lang/Math", "min", "(II)I"⟩ : MethodName) jdk_29_method_69_code 2 (some .int) ({ frames := 0, cells := 0, slots := 0, locals := 0 } : Room) #[.int x, .int y] h [] [] (fun v h' => v = some (.int (if y < x then y else x)) ∧ h = h') := by
  have G0 := G
  obtain ⟨hw, hEL, SC, hz, SF, hfm, SA, SH, SL⟩ := G
  have hw1 : ∀ d ∈ StrChars.Road.words, d.before a0 Z = true := fun d q => hw d (sub1 d q)
  have hwA : ∀ d ∈ Bundle.stringAtoms, d.before a0 Z = true := fun d q => hw d (subA d q)
  refine Met.of (by decide +kernel) ?_
  intro p e s m below meth c T hnm hret hlk hby hml hs w
  have hZ0 := w.old
  refine Run.cast (ef_min m x y) ?_
  refine s_iload_n w (hb hby dmin_0) rfl (pc' := 1) rfl ?_
  refine s_iload_n w (hb hby dmin_1) rfl (pc' := 2) rfl ?_
  refine s_icmp_gt w (hb hby dmin_2) (by decide) (pc1 := 5) rfl (pc2 := 9) rfl (fun ct1 => ?_) (fun ct1 => ?_)
  · -- ¬ (y < x)
    refine s_iload_n w (hb hby dmin_5) rfl (pc' := 6) rfl ?_
    refine s_goto w (hb hby dmin_6) (by decide) (pc' := 10) rfl ?_
    exact w_ireturn w hEL hs hlk hret rfl (Or.inl rfl) (hb hby dmin_10) (by decide) (by decide) ⟨by rw [if_neg ct1], rfl⟩
  · -- y < x
    refine s_iload_n w (hb hby dmin_9) rfl (pc' := 10) rfl ?_
    exact w_ireturn w hEL hs hlk hret rfl (Or.inl rfl) (hb hby dmin_10) (by decide) (by decide) ⟨by rw [if_pos ct1], rfl⟩
theorem dckl_0 : decode jdk_65_method_131_code 0 = .ok (.iload_n 1, 1) := by decide +kernel
theorem dckl_1 : decode jdk_65_method_131_code 1 = .ok (.iload_n 0, 1) := by decide +kernel
theorem dckl_2 : decode jdk_65_method_131_code 2 = .ok (.if_icmp .ge 35, 3) := by decide +kernel
theorem dckl_5 : decode jdk_65_method_131_code 5 = .ok (.new 43, 3) := by decide +kernel
theorem dckl_8 : decode jdk_65_method_131_code 8 = .ok (.dup, 1) := by decide +kernel
theorem dckl_9 : decode jdk_65_method_131_code 9 = .ok (.new 45, 3) := by decide +kernel
theorem dckl_12 : decode jdk_65_method_131_code 12 = .ok (.dup, 1) := by decide +kernel
theorem dckl_13 : decode jdk_65_method_131_code 13 = .ok (.invokespecial 47, 3) := by decide +kernel
theorem dckl_16 : decode jdk_65_method_131_code 16 = .ok (.iload_n 0, 1) := by decide +kernel
theorem dckl_17 : decode jdk_65_method_131_code 17 = .ok (.invokevirtual 54, 3) := by decide +kernel
theorem dckl_20 : decode jdk_65_method_131_code 20 = .ok (.ldc_w 337, 3) := by decide +kernel
theorem dckl_23 : decode jdk_65_method_131_code 23 = .ok (.invokevirtual 50, 3) := by decide +kernel
theorem dckl_26 : decode jdk_65_method_131_code 26 = .ok (.iload_n 1, 1) := by decide +kernel
theorem dckl_27 : decode jdk_65_method_131_code 27 = .ok (.invokevirtual 54, 3) := by decide +kernel
theorem dckl_30 : decode jdk_65_method_131_code 30 = .ok (.invokevirtual 61, 3) := by decide +kernel
theorem dckl_33 : decode jdk_65_method_131_code 33 = .ok (.invokespecial 65, 3) := by decide +kernel
theorem dckl_36 : decode jdk_65_method_131_code 36 = .ok (.athrow, 1) := by decide +kernel
theorem dckl_37 : decode jdk_65_method_131_code 37 = .ok (.return_, 1) := by decide +kernel
theorem pn_6 : plainName "java/util/Arrays" = true := by first | (simp [plainName, overriddenIn]; done) | decide +kernel
theorem ef_ckl (m : MethodId) (N : Int32) : entryFrame m #[.int 0, .int N] 2 = mkF m 0 #[.val (.int 0), .val (.int N)] [] := by first | (simp [entryFrame, mkF, argsToLocals, Value.category]; done) | rfl
set_option maxRecDepth 65536 in
set_option maxHeartbeats 40000000 in
theorem rm_ckl {l : Launch} {Z : State} {a0 : Array Value} {zc : Int32} {fm : Value} (G : Gl Z a0 zc fm) (h : Heap) (N : Int32) (n : Nat) (hN : N = Int32.ofNat n) (hn : n ≤ 2000) :
    Met l Z consts_1 (⟨"java/util/Arrays", "checkLength", "(II)V"⟩ : MethodName) jdk_65_method_131_code 2 none ({ frames := 0, cells := 0, slots := 0, locals := 0 } : Room) #[.int 0, .int N] h [] [] (fun v h' => v = none ∧ h = h') := by
  have G0 := G
  obtain ⟨hw, hEL, SC, hz, SF, hfm, SA, SH, SL⟩ := G
  have hw1 : ∀ d ∈ StrChars.Road.words, d.before a0 Z = true := fun d q => hw d (sub1 d q)
  have hwA : ∀ d ∈ Bundle.stringAtoms, d.before a0 Z = true := fun d q => hw d (subA d q)
  refine Met.of (plainFor_of_name pn_6) ?_
  intro p e s m below meth c T hnm hret hlk hby hml hs w
  have hZ0 := w.old
  refine Run.cast (ef_ckl m N) ?_
  refine s_iload_n w (hb hby dckl_0) rfl (pc' := 1) rfl ?_
  refine s_iload_n w (hb hby dckl_1) rfl (pc' := 2) rfl ?_
  refine s_icmp_ge w (hb hby dckl_2) (by decide) (pc1 := 5) rfl (pc2 := 37) rfl (fun ct1 => ?_) (fun ct1 => ?_)
  · exact absurd ct1 (by rw [hN]; exact ofNat_lt (by omega))
  · skip
    exact w_return w hEL hs hlk hret (hb hby dckl_37) (by decide) (by decide) ⟨rfl, rfl⟩
theorem dcrb_0 : decode jdk_65_method_133_code 0 = .ok (.iload_n 1, 1) := by decide +kernel
theorem dcrb_1 : decode jdk_65_method_133_code 1 = .ok (.iload_n 2, 1) := by decide +kernel
theorem dcrb_2 : decode jdk_65_method_133_code 2 = .ok (.invokestatic 343, 3) := by decide +kernel
theorem dcrb_5 : decode jdk_65_method_133_code 5 = .ok (.iload_n 2, 1) := by decide +kernel
theorem dcrb_6 : decode jdk_65_method_133_code 6 = .ok (.iload_n 1, 1) := by decide +kernel
theorem dcrb_7 : decode jdk_65_method_133_code 7 = .ok (.isub, 1) := by decide +kernel
theorem dcrb_8 : decode jdk_65_method_133_code 8 = .ok (.istore_n 3, 1) := by decide +kernel
theorem dcrb_9 : decode jdk_65_method_133_code 9 = .ok (.iload_n 3, 1) := by decide +kernel
theorem dcrb_10 : decode jdk_65_method_133_code 10 = .ok (.newarray .byte, 2) := by decide +kernel
theorem dcrb_12 : decode jdk_65_method_133_code 12 = .ok (.astore 4, 2) := by decide +kernel
theorem dcrb_14 : decode jdk_65_method_133_code 14 = .ok (.aload_n 0, 1) := by decide +kernel
theorem dcrb_15 : decode jdk_65_method_133_code 15 = .ok (.iload_n 1, 1) := by decide +kernel
theorem dcrb_16 : decode jdk_65_method_133_code 16 = .ok (.aload 4, 2) := by decide +kernel
theorem dcrb_18 : decode jdk_65_method_133_code 18 = .ok (.iconst 0, 1) := by decide +kernel
theorem dcrb_19 : decode jdk_65_method_133_code 19 = .ok (.aload_n 0, 1) := by decide +kernel
theorem dcrb_20 : decode jdk_65_method_133_code 20 = .ok (.arraylength, 1) := by decide +kernel
theorem dcrb_21 : decode jdk_65_method_133_code 21 = .ok (.iload_n 1, 1) := by decide +kernel
theorem dcrb_22 : decode jdk_65_method_133_code 22 = .ok (.isub, 1) := by decide +kernel
theorem dcrb_23 : decode jdk_65_method_133_code 23 = .ok (.iload_n 3, 1) := by decide +kernel
theorem dcrb_24 : decode jdk_65_method_133_code 24 = .ok (.invokestatic 304, 3) := by decide +kernel
theorem dcrb_27 : decode jdk_65_method_133_code 27 = .ok (.invokestatic 150, 3) := by decide +kernel
theorem dcrb_30 : decode jdk_65_method_133_code 30 = .ok (.aload 4, 2) := by decide +kernel
theorem dcrb_32 : decode jdk_65_method_133_code 32 = .ok (.areturn, 1) := by decide +kernel
theorem ef_crb (m : MethodId) (t : Addr) (N : Int32) : entryFrame m #[.ref t, .int 0, .int N] 5 = mkF m 0 #[.val (.ref t), .val (.int 0), .val (.int N), .unset, .unset] [] := by first | (simp [entryFrame, mkF, argsToLocals, Value.category]; done) | rfl
set_option maxRecDepth 65536 in
set_option maxHeartbeats 40000000 in
theorem rm_crb {l : Launch} {Z : State} {a0 : Array Value} {zc : Int32} {fm : Value} (G : Gl Z a0 zc fm) (h : Heap) (t : Addr) (N : Int32) (n cap : Nat) (kt : ClassId) (vs : List Value) (hN : N = Int32.ofNat n) (hlt : n < cap) (hc2 : cap ≤ 2000) (hnB : n ≤ 32) (At : Arv Z h t kt .byte (Int32.ofNat cap) vs (.int 0)) (hvl : vs.length = cap) :
    Met l Z consts_1 (⟨"java/util/Arrays", "copyOfRangeByte", "([BII)[B"⟩ : MethodName) jdk_65_method_133_code 5 (some (.array .byte)) ({ frames := 1, cells := 1, slots := 32, locals := 40 } : Room) #[.ref t, .int 0, .int N] h [] [] (fun v h' => ∃ u ku, v = some (.ref u) ∧ h.size ≤ u ∧ Arv Z h' u ku .byte N (vs.take n) (.int 0)) := by
  have G0 := G
  obtain ⟨hw, hEL, SC, hz, SF, hfm, SA, SH, SL⟩ := G
  have hw1 : ∀ d ∈ StrChars.Road.words, d.before a0 Z = true := fun d q => hw d (sub1 d q)
  have hwA : ∀ d ∈ Bundle.stringAtoms, d.before a0 Z = true := fun d q => hw d (subA d q)
  refine Met.of (plainFor_of_name pn_6) ?_
  intro p e s m below meth c T hnm hret hlk hby hml hs w
  have hZ0 := w.old
  refine Run.cast (ef_crb m t N) ?_
  refine s_iload_n w (hb hby dcrb_0) rfl (pc' := 1) rfl ?_
  refine s_iload_n w (hb hby dcrb_1) rfl (pc' := 2) rfl ?_
  refine w_staticN w hEL (y := (⟨"java/util/Arrays", "checkLength", "(II)V"⟩ : MethodName)) (hw _ (List.mem_of_getElem? (i := 164) rfl)) (hw _ (List.mem_of_getElem? (i := 165) rfl)) (hw _ (List.mem_of_getElem? (i := 159) rfl)) (hw _ (List.mem_of_getElem? (i := 166) rfl)) (by decide) (rm_ckl G0 h N n hN (by omega)) all0 all0 (argsL := [.int 0, .int N]) (rest := []) (lenOf (by decide +kernel : parseMethodDescriptor "(II)V" = some ⟨[.int, .int], none⟩) rfl) rfl rfl (hb hby dcrb_2) (by rw [hml]; rfl) (W := 0) (Nat.le_of_eq rfl) (by decide) (by decide) (by decide) (by decide) (pc' := 5) rfl fun u1 N2 T h3 w K4 P5 => ?_
  obtain ⟨rfl, P6⟩ := P5
  obtain ⟨rfl, rfl⟩ := P6
  show Run p e below _ T (mkF m 5 #[.val (.ref t), .val (.int 0), .val (.int N), .unset, .unset] [])
  refine s_iload_n w (hb hby dcrb_5) rfl (pc' := 6) rfl ?_
  refine s_iload_n w (hb hby dcrb_6) rfl (pc' := 7) rfl ?_
  refine s_isub w (hb hby dcrb_7) (pc' := 8) rfl ?_
  rw [Int32.sub_zero]
  refine s_istore_n w #[.val (.ref t), .val (.int 0), .val (.int N), .val (.int N), .unset] (hb hby dcrb_8) rfl (pc' := 9) rfl ?_
  refine s_iload_n w (hb hby dcrb_9) rfl (pc' := 10) rfl ?_
  refine w_newP w (hw _ (List.mem_of_getElem? (i := 24) rfl)) rfl (dv := .int 0) rfl (hb hby dcrb_10) (by rw [hN]; exact ofNat_lt (by omega)) (n := n) (by rw [hN]; exact Nat.le_of_eq (ofNat_nat (by omega))) (by omega) (pc' := 12) rfl (by decide) (by first | omega | (dsimp only; omega)) fun T h7 x8 k9 w E10 q11 r12 V13 => ?_
  have w := w.mono (slots' := 32) (Nat.le_refl _) (by first | omega | (dsimp only; omega))
  refine s_astore w #[.val (.ref t), .val (.int 0), .val (.int N), .val (.int N), .val (.ref x8)] (hb hby dcrb_12) rfl rfl (pc' := 14) rfl ?_
  refine s_aload_n w (hb hby dcrb_14) rfl rfl (pc' := 15) rfl ?_
  refine s_iload_n w (hb hby dcrb_15) rfl (pc' := 16) rfl ?_
  refine s_aload w (hb hby dcrb_16) rfl rfl (pc' := 18) rfl ?_
  refine s_iconst w (hb hby dcrb_18) (v := 0) rfl (pc' := 19) rfl ?_
  refine s_aload_n w (hb hby dcrb_19) rfl rfl (pc' := 20) rfl ?_
  refine w_len w (At.ext E10) (hb hby dcrb_20) (pc' := 21) rfl ?_
  refine s_iload_n w (hb hby dcrb_21) rfl (pc' := 22) rfl ?_
  refine s_isub w (hb hby dcrb_22) (pc' := 23) rfl ?_
  rw [Int32.sub_zero]
  refine s_iload_n w (hb hby dcrb_23) rfl (pc' := 24) rfl ?_
  refine w_staticN w hEL (y := (⟨"java/lang/Math", "min", "(II)I"⟩ : MethodName)) (hw _ (List.mem_of_getElem? (i := 167) rfl)) (hw _ (List.mem_of_getElem? (i := 168) rfl)) (hw _ (List.mem_of_getElem? (i := 169) rfl)) (hw _ (List.mem_of_getElem? (i := 170) rfl)) (by decide) (rm_min G0 h7 (Int32.ofNat cap) N) all0 all0 (argsL := [.int (Int32.ofNat cap), .int N]) (rest := [.int 0, .ref x8, .int 0, .ref t]) (lenOf (by decide +kernel : parseMethodDescriptor "(II)I" = some ⟨[.int, .int], (some .int)⟩) rfl) rfl rfl (hb hby dcrb_24) (by rw [hml]; rfl) (W := 4) (Nat.le_of_eq rfl) (by decide) (by decide) (by decide) (by decide) (pc' := 27) rfl fun u14 N15 T h16 w K17 P18 => ?_
  obtain ⟨rfl, P19⟩ := P18
  obtain ⟨rfl, rfl⟩ := P19
  rw [if_pos (by rw [hN]; exact (ofNat_cmp (by omega) (by omega)).mpr hlt)]
  show Run p e below _ T (mkF m 27 #[.val (.ref t), .val (.int 0), .val (.int N), .val (.int N), .val (.ref x8)] [.int N, .int 0, .ref x8, .int 0, .ref t])
  refine w_copyB w (hw _ (List.mem_of_getElem? (i := 171) rfl)) (hw _ (List.mem_of_getElem? (i := 125) rfl)) (hw _ (List.mem_of_getElem? (i := 123) rfl)) (hw _ (List.mem_of_getElem? (i := 124) rfl)) (is := 0) (id := 0) (n := n) (us := (vs.take n)) (At.ext E10) V13 rfl rfl hN (by omega) (by omega) (by omega) (by rw [ofNat_nat (by omega)]; omega) (by rw [hN, ofNat_nat (by omega)]; omega) (range_take (by omega)) (by simp) (List.mem_of_getElem? (i := 0) rfl) (Or.inr r12) rfl (hb hby dcrb_27) (by rw [hml]; rfl) (by decide) (W := 0) (Nat.le_of_eq rfl) (by decide) (pc' := 30) rfl fun T h20 w K21 F22 => ?_
  refine s_aload w (hb hby dcrb_30) rfl rfl (pc' := 32) rfl ?_
  exact w_areturn w hEL hs hlk hret rfl rfl (hb hby dcrb_32) (by decide) (by decide) ⟨x8, _, rfl, q11, by simpa using F22⟩
theorem dcor_0 : decode jdk_65_method_132_code 0 = .ok (.iload_n 1, 1) := by decide +kernel
theorem dcor_1 : decode jdk_65_method_132_code 1 = .ok (.ifCond .ne 9, 3) := by decide +kernel
theorem dcor_4 : decode jdk_65_method_132_code 4 = .ok (.iload_n 2, 1) := by decide +kernel
theorem dcor_5 : decode jdk_65_method_132_code 5 = .ok (.aload_n 0, 1) := by decide +kernel
theorem dcor_6 : decode jdk_65_method_132_code 6 = .ok (.arraylength, 1) := by decide +kernel
theorem dcor_7 : decode jdk_65_method_132_code 7 = .ok (.if_icmp .eq 10, 3) := by decide +kernel
theorem dcor_10 : decode jdk_65_method_132_code 10 = .ok (.aload_n 0, 1) := by decide +kernel
theorem dcor_11 : decode jdk_65_method_132_code 11 = .ok (.iload_n 1, 1) := by decide +kernel
theorem dcor_12 : decode jdk_65_method_132_code 12 = .ok (.iload_n 2, 1) := by decide +kernel
theorem dcor_13 : decode jdk_65_method_132_code 13 = .ok (.invokestatic 339, 3) := by decide +kernel
theorem dcor_16 : decode jdk_65_method_132_code 16 = .ok (.areturn, 1) := by decide +kernel
theorem dcor_17 : decode jdk_65_method_132_code 17 = .ok (.aload_n 0, 1) := by decide +kernel
theorem dcor_18 : decode jdk_65_method_132_code 18 = .ok (.invokevirtual 310, 3) := by decide +kernel
theorem dcor_21 : decode jdk_65_method_132_code 21 = .ok (.checkcast 311, 3) := by decide +kernel
theorem dcor_24 : decode jdk_65_method_132_code 24 = .ok (.areturn, 1) := by decide +kernel
theorem ef_cor (m : MethodId) (t : Addr) (N : Int32) : entryFrame m #[.ref t, .int 0, .int N] 3 = mkF m 0 #[.val (.ref t), .val (.int 0), .val (.int N)] [] := by first | (simp [entryFrame, mkF, argsToLocals, Value.category]; done) | rfl
set_option maxRecDepth 65536 in
set_option maxHeartbeats 40000000 in
theorem rm_cor {l : Launch} {Z : State} {a0 : Array Value} {zc : Int32} {fm : Value} (G : Gl Z a0 zc fm) (h : Heap) (t : Addr) (N : Int32) (n cap : Nat) (kt : ClassId) (vs : List Value) (hN : N = Int32.ofNat n) (hlt : n < cap) (hc2 : cap ≤ 2000) (hnB : n ≤ 32) (At : Arv Z h t kt .byte (Int32.ofNat cap) vs (.int 0)) (hvl : vs.length = cap) :
    Met l Z consts_1 (⟨"java/util/Arrays", "copyOfRange", "([BII)[B"⟩ : MethodName) jdk_65_method_132_code 3 (some (.array .byte)) ({ frames := 2, cells := 1, slots := 32, locals := 56 } : Room) #[.ref t, .int 0, .int N] h [] [] (fun v h' => ∃ u ku, v = some (.ref u) ∧ h.size ≤ u ∧ Arv Z h' u ku .byte N (vs.take n) (.int 0)) := by
  have G0 := G
  obtain ⟨hw, hEL, SC, hz, SF, hfm, SA, SH, SL⟩ := G
  have hw1 : ∀ d ∈ StrChars.Road.words, d.before a0 Z = true := fun d q => hw d (sub1 d q)
  have hwA : ∀ d ∈ Bundle.stringAtoms, d.before a0 Z = true := fun d q => hw d (subA d q)
  refine Met.of (plainFor_of_name pn_6) ?_
  intro p e s m below meth c T hnm hret hlk hby hml hs w
  have hZ0 := w.old
  refine Run.cast (ef_cor m t N) ?_
  refine s_iload_n w (hb hby dcor_0) rfl (pc' := 1) rfl ?_
  refine s_if_ne w (hb hby dcor_1) (by decide) (pc1 := 4) rfl (pc2 := 10) rfl (fun _ => ?_) (fun q => absurd q (by decide))
  refine s_iload_n w (hb hby dcor_4) rfl (pc' := 5) rfl ?_
  refine s_aload_n w (hb hby dcor_5) rfl rfl (pc' := 6) rfl ?_
  refine w_len w At (hb hby dcor_6) (pc' := 7) rfl ?_
  refine s_icmp_eq w (hb hby dcor_7) (by decide) (pc1 := 10) rfl (pc2 := 17) rfl (fun ct2 => ?_) (fun ct2 => ?_)
  · skip
    refine s_aload_n w (hb hby dcor_10) rfl rfl (pc' := 11) rfl ?_
    refine s_iload_n w (hb hby dcor_11) rfl (pc' := 12) rfl ?_
    refine s_iload_n w (hb hby dcor_12) rfl (pc' := 13) rfl ?_
    refine w_staticN w hEL (y := (⟨"java/util/Arrays", "copyOfRangeByte", "([BII)[B"⟩ : MethodName)) (hw _ (List.mem_of_getElem? (i := 161) rfl)) (hw _ (List.mem_of_getElem? (i := 162) rfl)) (hw _ (List.mem_of_getElem? (i := 159) rfl)) (hw _ (List.mem_of_getElem? (i := 163) rfl)) (by decide) (rm_crb G0 h t N n cap kt vs hN hlt hc2 hnB At hvl) all0 all0 (argsL := [.ref t, .int 0, .int N]) (rest := []) (lenOf (by decide +kernel : parseMethodDescriptor "([BII)[B" = some ⟨[(.array .byte), .int, .int], (some (.array .byte))⟩) rfl) rfl rfl (hb hby dcor_13) (by rw [hml]; rfl) (W := 0) (Nat.le_of_eq rfl) (by decide) (by decide) (by decide) (by decide) (pc' := 16) rfl fun u3 N4 T h5 w K6 P7 => ?_
    obtain ⟨rfl, P8⟩ := P7
    obtain ⟨u, ku, rfl, P8, P9⟩ := P8
    show Run p e below _ T (mkF m 16 #[.val (.ref t), .val (.int 0), .val (.int N)] [.ref u])
    exact w_areturn w hEL hs hlk hret rfl rfl (hb hby dcor_16) (by decide) (by decide) ⟨u, ku, rfl, P8, P9⟩
  · exact absurd (ofN_inj' (by omega) (by omega) (hN.symm.trans ct2)) (by omega)
theorem dgv_0 : decode jdk_68_method_64_code 0 = .ok (.aload_n 0, 1) := by decide +kernel
theorem dgv_1 : decode jdk_68_method_64_code 1 = .ok (.getfield 15, 3) := by decide +kernel
theorem dgv_4 : decode jdk_68_method_64_code 4 = .ok (.areturn, 1) := by decide +kernel
theorem ef_gv (m : MethodId) (b : Addr) : entryFrame m #[.ref b] 1 = mkF m 0 #[.val (.ref b)] [] := by first | (simp [entryFrame, mkF, argsToLocals, Value.category]; done) | rfl
set_option maxRecDepth 65536 in
set_option maxHeartbeats 40000000 in
theorem rm_gv {l : Launch} {Z : State} {a0 : Array Value} {zc : Int32} {fm : Value} (G : Gl Z a0 zc fm) (h : Heap) (b : Addr) (t : Addr) (F : Fld Z h b ASB "value" "[B" (.ref t)) :
    Met l Z consts_1 (⟨"java/lang/AbstractStringBuilder", "getValue", "()[B"⟩ : MethodName) jdk_68_method_64_code 1 (some (.array .byte)) ({ frames := 0, cells := 0, slots := 0, locals := 0 } : Room) #[.ref b] h [] [] (fun v h' => v = some (.ref t) ∧ h = h') := by
  have G0 := G
  obtain ⟨hw, hEL, SC, hz, SF, hfm, SA, SH, SL⟩ := G
  have hw1 : ∀ d ∈ StrChars.Road.words, d.before a0 Z = true := fun d q => hw d (sub1 d q)
  have hwA : ∀ d ∈ Bundle.stringAtoms, d.before a0 Z = true := fun d q => hw d (subA d q)
  refine Met.of (plainFor_of_name pn_4) ?_
  intro p e s m below meth c T hnm hret hlk hby hml hs w
  have hZ0 := w.old
  refine Run.cast (ef_gv m b) ?_
  refine s_aload_n w (hb hby dgv_0) rfl rfl (pc' := 1) rfl ?_
  refine w_getF w (hw _ (List.mem_of_getElem? (i := 75) rfl)) Via.refl F (hb hby dgv_1) (pc' := 4) rfl fun T w => ?_
  exact w_areturn w hEL hs hlk hret rfl rfl (hb hby dgv_4) (by decide) (by decide) ⟨rfl, rfl⟩
theorem daln_0 : decode jdk_68_method_6_code 0 = .ok (.aload_n 0, 1) := by decide +kernel
theorem daln_1 : decode jdk_68_method_6_code 1 = .ok (.getfield 79, 3) := by decide +kernel
theorem daln_4 : decode jdk_68_method_6_code 4 = .ok (.ireturn, 1) := by decide +kernel
theorem ef_aln (m : MethodId) (b : Addr) : entryFrame m #[.ref b] 1 = mkF m 0 #[.val (.ref b)] [] := by first | (simp [entryFrame, mkF, argsToLocals, Value.category]; done) | rfl
set_option maxRecDepth 65536 in
set_option maxHeartbeats 40000000 in
theorem rm_aln {l : Launch} {Z : State} {a0 : Array Value} {zc : Int32} {fm : Value} (G : Gl Z a0 zc fm) (h : Heap) (b : Addr) (n0 : Int32) (F : Fld Z h b ASB "count" "I" (.int n0)) :
    Met l Z consts_1 (⟨"java/lang/AbstractStringBuilder", "length", "()I"⟩ : MethodName) jdk_68_method_6_code 1 (some .int) ({ frames := 0, cells := 0, slots := 0, locals := 0 } : Room) #[.ref b] h [] [] (fun v h' => v = some (.int n0) ∧ h = h') := by
  have G0 := G
  obtain ⟨hw, hEL, SC, hz, SF, hfm, SA, SH, SL⟩ := G
  have hw1 : ∀ d ∈ StrChars.Road.words, d.before a0 Z = true := fun d q => hw d (sub1 d q)
  have hwA : ∀ d ∈ Bundle.stringAtoms, d.before a0 Z = true := fun d q => hw d (subA d q)
  refine Met.of (plainFor_of_name pn_4) ?_
  intro p e s m below meth c T hnm hret hlk hby hml hs w
  have hZ0 := w.old
  refine Run.cast (ef_aln m b) ?_
  refine s_aload_n w (hb hby daln_0) rfl rfl (pc' := 1) rfl ?_
  refine w_getF w (hw _ (List.mem_of_getElem? (i := 99) rfl)) Via.refl F (hb hby daln_1) (pc' := 4) rfl fun T w => ?_
  exact w_ireturn w hEL hs hlk hret rfl (Or.inl rfl) (hb hby daln_4) (by decide) (by decide) ⟨rfl, rfl⟩
theorem dsln_0 : decode jdk_67_method_93_code 0 = .ok (.aload_n 0, 1) := by decide +kernel
theorem dsln_1 : decode jdk_67_method_93_code 1 = .ok (.invokespecial 343, 3) := by decide +kernel
theorem dsln_4 : decode jdk_67_method_93_code 4 = .ok (.ireturn, 1) := by decide +kernel
theorem ef_sln (m : MethodId) (b : Addr) : entryFrame m #[.ref b] 1 = mkF m 0 #[.val (.ref b)] [] := by first | (simp [entryFrame, mkF, argsToLocals, Value.category]; done) | rfl
set_option maxRecDepth 65536 in
set_option maxHeartbeats 40000000 in
theorem rm_sln {l : Launch} {Z : State} {a0 : Array Value} {zc : Int32} {fm : Value} (G : Gl Z a0 zc fm) (h : Heap) (b : Addr) (n0 : Int32) (E : Exa Z h b SBC) (F : Fld Z h b ASB "count" "I" (.int n0)) :
    Met l Z consts_1 (⟨"java/lang/StringBuilder", "length", "()I"⟩ : MethodName) jdk_67_method_93_code 1 (some .int) ({ frames := 1, cells := 0, slots := 0, locals := 12 } : Room) #[.ref b] h [] [] (fun v h' => v = some (.int n0) ∧ h = h') := by
  have G0 := G
  obtain ⟨hw, hEL, SC, hz, SF, hfm, SA, SH, SL⟩ := G
  have hw1 : ∀ d ∈ StrChars.Road.words, d.before a0 Z = true := fun d q => hw d (sub1 d q)
  have hwA : ∀ d ∈ Bundle.stringAtoms, d.before a0 Z = true := fun d q => hw d (subA d q)
  refine Met.of (plainFor_of_name pn_5) ?_
  intro p e s m below meth c T hnm hret hlk hby hml hs w
  have hZ0 := w.old
  refine Run.cast (ef_sln m b) ?_
  refine s_aload_n w (hb hby dsln_0) rfl rfl (pc' := 1) rfl ?_
  refine w_superN w hEL (y := (⟨"java/lang/AbstractStringBuilder", "length", "()I"⟩ : MethodName)) (C := "java/lang/StringBuilder") (a := b) (by decide) (hw _ (List.mem_of_getElem? (i := 150) rfl)) (hw _ (List.mem_of_getElem? (i := 145) rfl)) (hw _ (List.mem_of_getElem? (i := 142) rfl)) rfl (hw _ (List.mem_of_getElem? (i := 86) rfl)) (hw _ (List.mem_of_getElem? (i := 146) rfl)) (hw _ (List.mem_of_getElem? (i := 71) rfl)) (hw _ (List.mem_of_getElem? (i := 151) rfl)) (by decide) E (rm_aln G0 h b n0 F) all0 all0 (argsL := []) (rest := []) (lenOf (by decide +kernel : parseMethodDescriptor "()I" = some ⟨[], (some .int)⟩) rfl) rfl rfl (hb hby dsln_1) (by rw [hml]; rfl) (W := 0) (Nat.le_of_eq rfl) (by decide) (by decide) (by decide) (by decide) (pc' := 4) rfl fun u1 N2 T h3 w K4 P5 => ?_
  obtain ⟨rfl, P6⟩ := P5
  obtain ⟨rfl, rfl⟩ := P6
  show Run p e below _ T (mkF m 4 #[.val (.ref b)] [.int n0])
  exact w_ireturn w hEL hs hlk hret rfl (Or.inl rfl) (hb hby dsln_4) (by decide) (by decide) ⟨rfl, rfl⟩
theorem dsia0_0 : decode jdk_42_method_150_code 0 = .ok (.aload_n 0, 1) := by decide +kernel
theorem dsia0_1 : decode jdk_42_method_150_code 1 = .ok (.invokespecial 1, 3) := by decide +kernel
theorem dsia0_4 : decode jdk_42_method_150_code 4 = .ok (.aload_n 1, 1) := by decide +kernel
theorem dsia0_5 : decode jdk_42_method_150_code 5 = .ok (.invokevirtual 552, 3) := by decide +kernel
theorem dsia0_8 : decode jdk_42_method_150_code 8 = .ok (.astore_n 3, 1) := by decide +kernel
theorem dsia0_9 : decode jdk_42_method_150_code 9 = .ok (.aload_n 1, 1) := by decide +kernel
theorem dsia0_10 : decode jdk_42_method_150_code 10 = .ok (.invokevirtual 549, 3) := by decide +kernel
theorem dsia0_13 : decode jdk_42_method_150_code 13 = .ok (.istore 4, 2) := by decide +kernel
theorem dsia0_15 : decode jdk_42_method_150_code 15 = .ok (.aload_n 1, 1) := by decide +kernel
theorem dsia0_16 : decode jdk_42_method_150_code 16 = .ok (.invokevirtual 1047, 3) := by decide +kernel
theorem dsia0_19 : decode jdk_42_method_150_code 19 = .ok (.ifCond .eq 22, 3) := by decide +kernel
theorem dsia0_22 : decode jdk_42_method_150_code 22 = .ok (.aload_n 0, 1) := by decide +kernel
theorem dsia0_23 : decode jdk_42_method_150_code 23 = .ok (.iconst 0, 1) := by decide +kernel
theorem dsia0_24 : decode jdk_42_method_150_code 24 = .ok (.putfield 15, 3) := by decide +kernel
theorem dsia0_27 : decode jdk_42_method_150_code 27 = .ok (.aload_n 0, 1) := by decide +kernel
theorem dsia0_28 : decode jdk_42_method_150_code 28 = .ok (.aload_n 3, 1) := by decide +kernel
theorem dsia0_29 : decode jdk_42_method_150_code 29 = .ok (.iconst 0, 1) := by decide +kernel
theorem dsia0_30 : decode jdk_42_method_150_code 30 = .ok (.iload 4, 2) := by decide +kernel
theorem dsia0_32 : decode jdk_42_method_150_code 32 = .ok (.invokestatic 54, 3) := by decide +kernel
theorem dsia0_35 : decode jdk_42_method_150_code 35 = .ok (.putfield 9, 3) := by decide +kernel
theorem dsia0_38 : decode jdk_42_method_150_code 38 = .ok (.goto 59, 3) := by decide +kernel
theorem dsia0_41 : decode jdk_42_method_150_code 41 = .ok (.getstatic 38, 3) := by decide +kernel
theorem dsia0_44 : decode jdk_42_method_150_code 44 = .ok (.ifCond .eq 35, 3) := by decide +kernel
theorem dsia0_47 : decode jdk_42_method_150_code 47 = .ok (.aload_n 1, 1) := by decide +kernel
theorem dsia0_48 : decode jdk_42_method_150_code 48 = .ok (.getfield 1048, 3) := by decide +kernel
theorem dsia0_51 : decode jdk_42_method_150_code 51 = .ok (.ifCond .eq 28, 3) := by decide +kernel
theorem dsia0_54 : decode jdk_42_method_150_code 54 = .ok (.aload_n 0, 1) := by decide +kernel
theorem dsia0_55 : decode jdk_42_method_150_code 55 = .ok (.aload_n 3, 1) := by decide +kernel
theorem dsia0_56 : decode jdk_42_method_150_code 56 = .ok (.iconst 0, 1) := by decide +kernel
theorem dsia0_57 : decode jdk_42_method_150_code 57 = .ok (.iload 4, 2) := by decide +kernel
theorem dsia0_59 : decode jdk_42_method_150_code 59 = .ok (.invokestatic 1051, 3) := by decide +kernel
theorem dsia0_62 : decode jdk_42_method_150_code 62 = .ok (.putfield 9, 3) := by decide +kernel
theorem dsia0_65 : decode jdk_42_method_150_code 65 = .ok (.aload_n 0, 1) := by decide +kernel
theorem dsia0_66 : decode jdk_42_method_150_code 66 = .ok (.aload_n 0, 1) := by decide +kernel
theorem dsia0_67 : decode jdk_42_method_150_code 67 = .ok (.getfield 9, 3) := by decide +kernel
theorem dsia0_70 : decode jdk_42_method_150_code 70 = .ok (.iload 4, 2) := by decide +kernel
theorem dsia0_72 : decode jdk_42_method_150_code 72 = .ok (.invokestatic 47, 3) := by decide +kernel
theorem dsia0_75 : decode jdk_42_method_150_code 75 = .ok (.putfield 15, 3) := by decide +kernel
theorem dsia0_78 : decode jdk_42_method_150_code 78 = .ok (.return_, 1) := by decide +kernel
theorem dsia0_79 : decode jdk_42_method_150_code 79 = .ok (.aload_n 0, 1) := by decide +kernel
theorem dsia0_80 : decode jdk_42_method_150_code 80 = .ok (.iconst 1, 1) := by decide +kernel
theorem dsia0_81 : decode jdk_42_method_150_code 81 = .ok (.putfield 15, 3) := by decide +kernel
theorem dsia0_84 : decode jdk_42_method_150_code 84 = .ok (.aload_n 0, 1) := by decide +kernel
theorem dsia0_85 : decode jdk_42_method_150_code 85 = .ok (.aload_n 3, 1) := by decide +kernel
theorem dsia0_86 : decode jdk_42_method_150_code 86 = .ok (.iconst 0, 1) := by decide +kernel
theorem dsia0_87 : decode jdk_42_method_150_code 87 = .ok (.iload 4, 2) := by decide +kernel
theorem dsia0_89 : decode jdk_42_method_150_code 89 = .ok (.iconst 1, 1) := by decide +kernel
theorem dsia0_90 : decode jdk_42_method_150_code 90 = .ok (.ishl, 1) := by decide +kernel
theorem dsia0_91 : decode jdk_42_method_150_code 91 = .ok (.invokestatic 54, 3) := by decide +kernel
theorem dsia0_94 : decode jdk_42_method_150_code 94 = .ok (.putfield 9, 3) := by decide +kernel
theorem dsia0_97 : decode jdk_42_method_150_code 97 = .ok (.return_, 1) := by decide +kernel
theorem ef_sia0 (m : MethodId) (x : Addr) (b : Addr) : entryFrame m #[.ref x, .ref b, .null] 5 = mkF m 0 #[.val (.ref x), .val (.ref b), .val (.null), .unset, .unset] [] := by first | (simp [entryFrame, mkF, argsToLocals, Value.category]; done) | rfl
set_option maxRecDepth 65536 in
set_option maxHeartbeats 40000000 in
theorem rm_sia0 {l : Launch} {Z : State} {a0 : Array Value} {zc : Int32} {fm : Value} (G : Gl Z a0 zc fm) (h : Heap) (x : Addr) (b : Addr) (t : Addr) (kt : ClassId) (cs : List Int32) (v0 v1 : Value) (B0 : Sb0 Z h b t kt cs) (hlt : cs.length ≤ 8) (E0 : Exa Z h x ST) (F_v : Fld Z h x ST "value" "[B" v0) (F_c : Fld Z h x ST "coder" "B" v1) :
    Met l Z consts_1 (⟨"java/lang/String", "<init>", "(Ljava/lang/AbstractStringBuilder;Ljava/lang/Void;)V"⟩ : MethodName) jdk_42_method_150_code 5 none ({ frames := 3, cells := 1, slots := 32, locals := 71 } : Room) #[.ref x, .ref b, .null] h [x] [x] (fun v h' => v = none ∧ ∃ u ku, S0 Z h' x u ku cs) := by
  have G0 := G
  obtain ⟨hw, hEL, SC, hz, SF, hfm, SA, SH, SL⟩ := G
  have hw1 : ∀ d ∈ StrChars.Road.words, d.before a0 Z = true := fun d q => hw d (sub1 d q)
  have hwA : ∀ d ∈ Bundle.stringAtoms, d.before a0 Z = true := fun d q => hw d (subA d q)
  refine Met.of (plainFor_of_name pn_1) ?_
  intro p e s m below meth c T hnm hret hlk hby hml hs w
  have hZ0 := w.old
  refine Run.cast (ef_sia0 m x b) ?_
  have B1 := B0
  obtain ⟨Eb, Vb, Cb, Nb, Mb, At, hcs, hcl⟩ := B0
  refine s_aload_n w (hb hby dsia0_0) rfl rfl (pc' := 1) rfl ?_
  refine w_objInit w (hw _ (List.mem_of_getElem? (i := 16) rfl)) (hw _ (List.mem_of_getElem? (i := 17) rfl)) (hw _ (List.mem_of_getElem? (i := 18) rfl)) (hb hby dsia0_1) (by rw [hml]; rfl) (by decide) (W := 0) (Nat.le_of_eq rfl) (by decide) (pc' := 4) rfl fun T w => ?_
  refine s_aload_n w (hb hby dsia0_4) rfl rfl (pc' := 5) rfl ?_
  refine w_virtualK w hEL (y := (⟨"java/lang/AbstractStringBuilder", "getValue", "()[B"⟩ : MethodName)) (y' := (⟨"java/lang/AbstractStringBuilder", "getValue", "()[B"⟩ : MethodName)) (C := "java/lang/StringBuilder") (a := b) (hw _ (List.mem_of_getElem? (i := 139) rfl)) (hw _ (List.mem_of_getElem? (i := 140) rfl)) (hw _ (List.mem_of_getElem? (i := 142) rfl)) rfl (hw _ (List.mem_of_getElem? (i := 142) rfl)) (hw _ (List.mem_of_getElem? (i := 141) rfl)) (hw _ (List.mem_of_getElem? (i := 71) rfl)) (hw _ (List.mem_of_getElem? (i := 143) rfl)) (by decide) Eb (rm_gv G0 h b t Vb) all0 all0 (argsL := []) (rest := []) (lenOf (by decide +kernel : parseMethodDescriptor "()[B" = some ⟨[], (some (.array .byte))⟩) rfl) rfl rfl (hb hby dsia0_5) (by rw [hml]; rfl) (W := 0) (Nat.le_of_eq rfl) (by decide) (by decide) (by decide) (by decide) (pc' := 8) rfl fun u1 N2 T h3 w K4 P5 => ?_
  obtain ⟨rfl, P6⟩ := P5
  obtain ⟨rfl, rfl⟩ := P6
  show Run p e below _ T (mkF m 8 #[.val (.ref x), .val (.ref b), .val (.null), .unset, .unset] [.ref t])
  refine s_astore_n w #[.val (.ref x), .val (.ref b), .val (.null), .val (.ref t), .unset] (hb hby dsia0_8) rfl rfl (pc' := 9) rfl ?_
  refine s_aload_n w (hb hby dsia0_9) rfl rfl (pc' := 10) rfl ?_
  refine w_virtualK w hEL (y := (⟨"java/lang/AbstractStringBuilder", "length", "()I"⟩ : MethodName)) (y' := (⟨"java/lang/StringBuilder", "length", "()I"⟩ : MethodName)) (C := "java/lang/StringBuilder") (a := b) (hw _ (List.mem_of_getElem? (i := 144) rfl)) (hw _ (List.mem_of_getElem? (i := 145) rfl)) (hw _ (List.mem_of_getElem? (i := 142) rfl)) rfl (hw _ (List.mem_of_getElem? (i := 147) rfl)) (hw _ (List.mem_of_getElem? (i := 148) rfl)) (hw _ (List.mem_of_getElem? (i := 63) rfl)) (hw _ (List.mem_of_getElem? (i := 149) rfl)) (by decide) Eb (rm_sln G0 h b _ Eb Nb) all0 all0 (argsL := []) (rest := []) (lenOf (by decide +kernel : parseMethodDescriptor "()I" = some ⟨[], (some .int)⟩) rfl) rfl rfl (hb hby dsia0_10) (by rw [hml]; rfl) (W := 0) (Nat.le_of_eq rfl) (by decide) (by decide) (by decide) (by decide) (pc' := 13) rfl fun u7 N8 T h9 w K10 P11 => ?_
  obtain ⟨rfl, P12⟩ := P11
  obtain ⟨rfl, rfl⟩ := P12
  show Run p e below _ T (mkF m 13 #[.val (.ref x), .val (.ref b), .val (.null), .val (.ref t), .unset] [.int (Int32.ofNat cs.length)])
  refine s_istore w #[.val (.ref x), .val (.ref b), .val (.null), .val (.ref t), .val (.int (Int32.ofNat cs.length))] (hb hby dsia0_13) rfl (pc' := 15) rfl ?_
  refine s_aload_n w (hb hby dsia0_15) rfl rfl (pc' := 16) rfl ?_
  refine w_virtualK w hEL (y := (⟨"java/lang/AbstractStringBuilder", "isLatin1", "()Z"⟩ : MethodName)) (y' := (⟨"java/lang/AbstractStringBuilder", "isLatin1", "()Z"⟩ : MethodName)) (C := "java/lang/StringBuilder") (a := b) (hw _ (List.mem_of_getElem? (i := 152) rfl)) (hw _ (List.mem_of_getElem? (i := 153) rfl)) (hw _ (List.mem_of_getElem? (i := 142) rfl)) rfl (hw _ (List.mem_of_getElem? (i := 155) rfl)) (hw _ (List.mem_of_getElem? (i := 154) rfl)) (hw _ (List.mem_of_getElem? (i := 71) rfl)) (hw _ (List.mem_of_getElem? (i := 156) rfl)) (by decide) Eb (rm_ail0 G0 h b Cb) all0 all0 (argsL := []) (rest := []) (lenOf (by decide +kernel : parseMethodDescriptor "()Z" = some ⟨[], (some .boolean)⟩) rfl) rfl rfl (hb hby dsia0_16) (by rw [hml]; rfl) (W := 0) (Nat.le_of_eq rfl) (by decide) (by decide) (by decide) (by decide) (pc' := 19) rfl fun u13 N14 T h15 w K16 P17 => ?_
  obtain ⟨rfl, P18⟩ := P17
  obtain ⟨rfl, rfl⟩ := P18
  show Run p e below _ T (mkF m 19 #[.val (.ref x), .val (.ref b), .val (.null), .val (.ref t), .val (.int (Int32.ofNat cs.length))] [.int 1])
  refine s_if_eq w (hb hby dsia0_19) (by decide) (pc1 := 22) rfl (pc2 := 41) rfl (fun _ => ?_) (fun q => absurd q (by decide))
  refine s_aload_n w (hb hby dsia0_22) rfl rfl (pc' := 23) rfl ?_
  refine s_iconst w (hb hby dsia0_23) (v := 0) rfl (pc' := 24) rfl ?_
  have sn : Jvm.RoadKit.slotOf Z "java/lang/String" "value" "[B" ≠ Jvm.RoadKit.slotOf Z "java/lang/String" "coder" "B" := slot_ne (Or.inr (hw _ (List.mem_of_getElem? (i := 34) rfl))) (Or.inr (hw _ (List.mem_of_getElem? (i := 32) rfl))) (by decide) (t := .array .byte) (t' := .byte) (by decide) (by decide)
  refine w_putF w (hw _ (List.mem_of_getElem? (i := 31) rfl)) Via.refl F_c E0 (Or.inr ⟨(hw _ (List.mem_of_getElem? (i := 32) rfl)), rfl, hnm⟩) (hw _ (List.mem_of_getElem? (i := 6) rfl)) (ty := .byte) (by decide) rfl rfl (hb hby dsia0_24) (Or.inl (List.mem_singleton.mpr rfl)) (Or.inr (List.mem_singleton.mpr rfl)) (pc' := 27) rfl fun T g1 w W1 F1 Y1 => ?_
  have At1 := At.other W1 (Exa.neArv E0 At (hw _ (List.mem_of_getElem? (i := 6) rfl))).symm
  refine s_aload_n w (hb hby dsia0_27) rfl rfl (pc' := 28) rfl ?_
  refine s_aload_n w (hb hby dsia0_28) rfl rfl (pc' := 29) rfl ?_
  refine s_iconst w (hb hby dsia0_29) (v := 0) rfl (pc' := 30) rfl ?_
  refine s_iload w (hb hby dsia0_30) rfl (pc' := 32) rfl ?_
  refine w_staticN w hEL (y := (⟨"java/util/Arrays", "copyOfRange", "([BII)[B"⟩ : MethodName)) (hw _ (List.mem_of_getElem? (i := 157) rfl)) (hw _ (List.mem_of_getElem? (i := 158) rfl)) (hw _ (List.mem_of_getElem? (i := 159) rfl)) (hw _ (List.mem_of_getElem? (i := 160) rfl)) (by decide) (rm_cor G0 g1 t _ cs.length 16 kt _ rfl (by omega) (by decide) (by omega) At1 (room_len hcl)) all0 all0 (argsL := [.ref t, .int 0, .int (Int32.ofNat cs.length)]) (rest := [.ref x]) (lenOf (by decide +kernel : parseMethodDescriptor "([BII)[B" = some ⟨[(.array .byte), .int, .int], (some (.array .byte))⟩) rfl) rfl rfl (hb hby dsia0_32) (by rw [hml]; rfl) (W := 1) (Nat.le_of_eq rfl) (by decide) (by decide) (by decide) (by decide) (pc' := 35) rfl fun u20 N21 T h22 w K23 P24 => ?_
  obtain ⟨rfl, P25⟩ := P24
  obtain ⟨u, ku, rfl, P8, P9⟩ := P25
  rw [room_take] at P9
  have E2 := Keep.ext0 K23
  show Run p e below _ T (mkF m 35 #[.val (.ref x), .val (.ref b), .val (.null), .val (.ref t), .val (.int (Int32.ofNat cs.length))] [.ref u, .ref x])
  refine w_putF w (hw _ (List.mem_of_getElem? (i := 33) rfl)) Via.refl ((F_v.other W1 (Or.inr sn)).ext E2) (Y1.ext E2) (Or.inr ⟨(hw _ (List.mem_of_getElem? (i := 34) rfl)), rfl, hnm⟩) (hw _ (List.mem_of_getElem? (i := 6) rfl)) (ty := (.array .byte)) (by decide) rfl rfl (hb hby dsia0_35) (Or.inl (List.mem_singleton.mpr rfl)) (Or.inr (List.mem_singleton.mpr rfl)) (pc' := 38) rfl fun T g2 w W2 F2 Y2 => ?_
  refine s_goto w (hb hby dsia0_38) (by decide) (pc' := 97) rfl ?_
  have nu : u ≠ x := fun z => by obtain ⟨cl, k0, A, -⟩ := Y1; have := (Array.getElem?_eq_some_iff.mp A).1; rw [← z] at this; exact absurd P8 (Nat.not_le.mpr this)
  exact w_return w hEL hs hlk hret (hb hby dsia0_97) (by decide) (by decide) ⟨rfl, u, ku, Y2, F2, (F1.ext E2).other W2 (Or.inr sn.symm), P9.other W2 nu, hcs, hlt⟩
theorem dsib0_0 : decode jdk_42_method_53_code 0 = .ok (.aload_n 0, 1) := by decide +kernel
theorem dsib0_1 : decode jdk_42_method_53_code 1 = .ok (.aload_n 1, 1) := by decide +kernel
theorem dsib0_2 : decode jdk_42_method_53_code 2 = .ok (.aconst_null, 1) := by decide +kernel
theorem dsib0_3 : decode jdk_42_method_53_code 3 = .ok (.invokespecial 489, 3) := by decide +kernel
theorem dsib0_6 : decode jdk_42_method_53_code 6 = .ok (.return_, 1) := by decide +kernel
theorem ef_sib0 (m : MethodId) (x : Addr) (b : Addr) : entryFrame m #[.ref x, .ref b] 2 = mkF m 0 #[.val (.ref x), .val (.ref b)] [] := by first | (simp [entryFrame, mkF, argsToLocals, Value.category]; done) | rfl
set_option maxRecDepth 65536 in
set_option maxHeartbeats 40000000 in
theorem rm_sib0 {l : Launch} {Z : State} {a0 : Array Value} {zc : Int32} {fm : Value} (G : Gl Z a0 zc fm) (h : Heap) (x : Addr) (b : Addr) (t : Addr) (kt : ClassId) (cs : List Int32) (v0 v1 : Value) (B0 : Sb0 Z h b t kt cs) (hlt : cs.length ≤ 8) (E0 : Exa Z h x ST) (F_v : Fld Z h x ST "value" "[B" v0) (F_c : Fld Z h x ST "coder" "B" v1) :
    Met l Z consts_1 (⟨"java/lang/String", "<init>", "(Ljava/lang/StringBuilder;)V"⟩ : MethodName) jdk_42_method_53_code 2 none ({ frames := 4, cells := 1, slots := 32, locals := 87 } : Room) #[.ref x, .ref b] h [x] [x] (fun v h' => v = none ∧ ∃ u ku, S0 Z h' x u ku cs) := by
  have G0 := G
  obtain ⟨hw, hEL, SC, hz, SF, hfm, SA, SH, SL⟩ := G
  have hw1 : ∀ d ∈ StrChars.Road.words, d.before a0 Z = true := fun d q => hw d (sub1 d q)
  have hwA : ∀ d ∈ Bundle.stringAtoms, d.before a0 Z = true := fun d q => hw d (subA d q)
  refine Met.of (plainFor_of_name pn_1) ?_
  intro p e s m below meth c T hnm hret hlk hby hml hs w
  have hZ0 := w.old
  refine Run.cast (ef_sib0 m x b) ?_
  refine s_aload_n w (hb hby dsib0_0) rfl rfl (pc' := 1) rfl ?_
  refine s_aload_n w (hb hby dsib0_1) rfl rfl (pc' := 2) rfl ?_
  refine s_anull w (hb hby dsib0_2) (pc' := 3) rfl ?_
  refine w_specialN w hEL (y := (⟨"java/lang/String", "<init>", "(Ljava/lang/AbstractStringBuilder;Ljava/lang/Void;)V"⟩ : MethodName)) (a := x) rfl (hw _ (List.mem_of_getElem? (i := 136) rfl)) (hw _ (List.mem_of_getElem? (i := 137) rfl)) (hw _ (List.mem_of_getElem? (i := 7) rfl)) (hw _ (List.mem_of_getElem? (i := 138) rfl)) (by decide) (rm_sia0 G0 h x b t kt cs v0 v1 B0 hlt E0 F_v F_c) (allS (List.mem_of_getElem? (i := 0) rfl) all0) (allS (Or.inl (List.mem_of_getElem? (i := 0) rfl)) all0) (argsL := [.ref b, .null]) (rest := []) (lenOf (by decide +kernel : parseMethodDescriptor "(Ljava/lang/AbstractStringBuilder;Ljava/lang/Void;)V" = some ⟨[(.object "java/lang/AbstractStringBuilder"), (.object "java/lang/Void")], none⟩) rfl) rfl rfl (hb hby dsib0_3) (by rw [hml]; rfl) (W := 0) (Nat.le_of_eq rfl) (by decide) (by decide) (by decide) (by decide) (pc' := 6) rfl fun u1 N2 T h3 w K4 P5 => ?_
  obtain ⟨rfl, P6⟩ := P5
  obtain ⟨rfl, P9⟩ := P6
  show Run p e below _ T (mkF m 6 #[.val (.ref x), .val (.ref b)] [])
  exact w_return w hEL hs hlk hret (hb hby dsib0_6) (by decide) (by decide) ⟨rfl, P9⟩
theorem dtos0_0 : decode jdk_67_method_42_code 0 = .ok (.new 18, 3) := by decide +kernel
theorem dtos0_3 : decode jdk_67_method_42_code 3 = .ok (.dup, 1) := by decide +kernel
theorem dtos0_4 : decode jdk_67_method_42_code 4 = .ok (.aload_n 0, 1) := by decide +kernel
theorem dtos0_5 : decode jdk_67_method_42_code 5 = .ok (.invokespecial 137, 3) := by decide +kernel
theorem dtos0_8 : decode jdk_67_method_42_code 8 = .ok (.areturn, 1) := by decide +kernel
theorem ef_tos0 (m : MethodId) (b : Addr) : entryFrame m #[.ref b] 1 = mkF m 0 #[.val (.ref b)] [] := by first | (simp [entryFrame, mkF, argsToLocals, Value.category]; done) | rfl
set_option maxRecDepth 65536 in
set_option maxHeartbeats 40000000 in
theorem rm_tos0 {l : Launch} {Z : State} {a0 : Array Value} {zc : Int32} {fm : Value} (G : Gl Z a0 zc fm) (h : Heap) (b : Addr) (t : Addr) (kt : ClassId) (cs : List Int32) (B0 : Sb0 Z h b t kt cs) (hlt : cs.length ≤ 8) :
    Met l Z consts_1 (⟨"java/lang/StringBuilder", "toString", "()Ljava/lang/String;"⟩ : MethodName) jdk_67_method_42_code 1 (some (.object "java/lang/String")) ({ frames := 5, cells := 2, slots := 36, locals := 101 } : Room) #[.ref b] h [] [] (fun v h' => ∃ x, v = some (.ref x) ∧ Str Z h' x cs) := by
  have G0 := G
  obtain ⟨hw, hEL, SC, hz, SF, hfm, SA, SH, SL⟩ := G
  have hw1 : ∀ d ∈ StrChars.Road.words, d.before a0 Z = true := fun d q => hw d (sub1 d q)
  have hwA : ∀ d ∈ Bundle.stringAtoms, d.before a0 Z = true := fun d q => hw d (subA d q)
  refine Met.of (plainFor_of_name pn_5) ?_
  intro p e s m below meth c T hnm hret hlk hby hml hs w
  have hZ0 := w.old
  refine Run.cast (ef_tos0 m b) ?_
  refine w_new w (hw _ (List.mem_of_getElem? (i := 132) rfl)) (hw _ (List.mem_of_getElem? (i := 6) rfl)) (hw _ (List.mem_of_getElem? (i := 7) rfl)) (hb hby dtos0_0) (pc' := 3) rfl (by decide) (by decide) fun T h1 x2 w E3 q4 r5 A6 D7 => ?_
  have F_coder_x2 : Fld Z h1 x2 "java/lang/String" "coder" "B" (.int 0) := D7 (Or.inr (hw _ (List.mem_of_getElem? (i := 32) rfl))) (ty := .byte) (by decide)
  have F_value_x2 : Fld Z h1 x2 "java/lang/String" "value" "[B" (.null) := D7 (Or.inr (hw _ (List.mem_of_getElem? (i := 34) rfl))) (ty := (.array .byte)) (by decide)
  refine s_dup w (hb hby dtos0_3) rfl (pc' := 4) rfl ?_
  refine s_aload_n w (hb hby dtos0_4) rfl rfl (pc' := 5) rfl ?_
  refine w_specialN w hEL (y := (⟨"java/lang/String", "<init>", "(Ljava/lang/StringBuilder;)V"⟩ : MethodName)) (a := x2) rfl (hw _ (List.mem_of_getElem? (i := 133) rfl)) (hw _ (List.mem_of_getElem? (i := 134) rfl)) (hw _ (List.mem_of_getElem? (i := 7) rfl)) (hw _ (List.mem_of_getElem? (i := 135) rfl)) (by decide) (rm_sib0 G0 h1 x2 b t kt cs _ _ (B0.ext E3) hlt A6 F_value_x2 F_coder_x2) (allS (List.mem_of_getElem? (i := 0) rfl) all0) (allS (Or.inr r5) all0) (argsL := [.ref b]) (rest := [.ref x2]) (lenOf (by decide +kernel : parseMethodDescriptor "(Ljava/lang/StringBuilder;)V" = some ⟨[(.object "java/lang/StringBuilder")], none⟩) rfl) rfl rfl (hb hby dtos0_5) (by rw [hml]; rfl) (W := 1) (Nat.le_of_eq rfl) (by decide) (by decide) (by decide) (by decide) (pc' := 8) rfl fun u8 N9 T h10 w K11 P12 => ?_
  obtain ⟨rfl, P13⟩ := P12
  obtain ⟨rfl, u, ku, P9⟩ := P13
  show Run p e below _ T (mkF m 8 #[.val (.ref b)] [.ref x2])
  exact w_areturn w hEL hs hlk hret rfl rfl (hb hby dtos0_8) (by decide) (by decide) ⟨x2, rfl, P9.str⟩
theorem dsia1_0 : decode jdk_42_method_150_code 0 = .ok (.aload_n 0, 1) := by decide +kernel
theorem dsia1_1 : decode jdk_42_method_150_code 1 = .ok (.invokespecial 1, 3) := by decide +kernel
theorem dsia1_4 : decode jdk_42_method_150_code 4 = .ok (.aload_n 1, 1) := by decide +kernel
theorem dsia1_5 : decode jdk_42_method_150_code 5 = .ok (.invokevirtual 552, 3) := by decide +kernel
theorem dsia1_8 : decode jdk_42_method_150_code 8 = .ok (.astore_n 3, 1) := by decide +kernel
theorem dsia1_9 : decode jdk_42_method_150_code 9 = .ok (.aload_n 1, 1) := by decide +kernel
theorem dsia1_10 : decode jdk_42_method_150_code 10 = .ok (.invokevirtual 549, 3) := by decide +kernel
theorem dsia1_13 : decode jdk_42_method_150_code 13 = .ok (.istore 4, 2) := by decide +kernel
theorem dsia1_15 : decode jdk_42_method_150_code 15 = .ok (.aload_n 1, 1) := by decide +kernel
theorem dsia1_16 : decode jdk_42_method_150_code 16 = .ok (.invokevirtual 1047, 3) := by decide +kernel
theorem dsia1_19 : decode jdk_42_method_150_code 19 = .ok (.ifCond .eq 22, 3) := by decide +kernel
theorem dsia1_22 : decode jdk_42_method_150_code 22 = .ok (.aload_n 0, 1) := by decide +kernel
theorem dsia1_23 : decode jdk_42_method_150_code 23 = .ok (.iconst 0, 1) := by decide +kernel
theorem dsia1_24 : decode jdk_42_method_150_code 24 = .ok (.putfield 15, 3) := by decide +kernel
theorem dsia1_27 : decode jdk_42_method_150_code 27 = .ok (.aload_n 0, 1) := by decide +kernel
theorem dsia1_28 : decode jdk_42_method_150_code 28 = .ok (.aload_n 3, 1) := by decide +kernel
theorem dsia1_29 : decode jdk_42_method_150_code 29 = .ok (.iconst 0, 1) := by decide +kernel
theorem dsia1_30 : decode jdk_42_method_150_code 30 = .ok (.iload 4, 2) := by decide +kernel
theorem dsia1_32 : decode jdk_42_method_150_code 32 = .ok (.invokestatic 54, 3) := by decide +kernel
theorem dsia1_35 : decode jdk_42_method_150_code 35 = .ok (.putfield 9, 3) := by decide +kernel
theorem dsia1_38 : decode jdk_42_method_150_code 38 = .ok (.goto 59, 3) := by decide +kernel
theorem dsia1_41 : decode jdk_42_method_150_code 41 = .ok (.getstatic 38, 3) := by decide +kernel
theorem dsia1_44 : decode jdk_42_method_150_code 44 = .ok (.ifCond .eq 35, 3) := by decide +kernel
theorem dsia1_47 : decode jdk_42_method_150_code 47 = .ok (.aload_n 1, 1) := by decide +kernel
theorem dsia1_48 : decode jdk_42_method_150_code 48 = .ok (.getfield 1048, 3) := by decide +kernel
theorem dsia1_51 : decode jdk_42_method_150_code 51 = .ok (.ifCond .eq 28, 3) := by decide +kernel
theorem dsia1_54 : decode jdk_42_method_150_code 54 = .ok (.aload_n 0, 1) := by decide +kernel
theorem dsia1_55 : decode jdk_42_method_150_code 55 = .ok (.aload_n 3, 1) := by decide +kernel
theorem dsia1_56 : decode jdk_42_method_150_code 56 = .ok (.iconst 0, 1) := by decide +kernel
theorem dsia1_57 : decode jdk_42_method_150_code 57 = .ok (.iload 4, 2) := by decide +kernel
theorem dsia1_59 : decode jdk_42_method_150_code 59 = .ok (.invokestatic 1051, 3) := by decide +kernel
theorem dsia1_62 : decode jdk_42_method_150_code 62 = .ok (.putfield 9, 3) := by decide +kernel
theorem dsia1_65 : decode jdk_42_method_150_code 65 = .ok (.aload_n 0, 1) := by decide +kernel
theorem dsia1_66 : decode jdk_42_method_150_code 66 = .ok (.aload_n 0, 1) := by decide +kernel
theorem dsia1_67 : decode jdk_42_method_150_code 67 = .ok (.getfield 9, 3) := by decide +kernel
theorem dsia1_70 : decode jdk_42_method_150_code 70 = .ok (.iload 4, 2) := by decide +kernel
theorem dsia1_72 : decode jdk_42_method_150_code 72 = .ok (.invokestatic 47, 3) := by decide +kernel
theorem dsia1_75 : decode jdk_42_method_150_code 75 = .ok (.putfield 15, 3) := by decide +kernel
theorem dsia1_78 : decode jdk_42_method_150_code 78 = .ok (.return_, 1) := by decide +kernel
theorem dsia1_79 : decode jdk_42_method_150_code 79 = .ok (.aload_n 0, 1) := by decide +kernel
theorem dsia1_80 : decode jdk_42_method_150_code 80 = .ok (.iconst 1, 1) := by decide +kernel
theorem dsia1_81 : decode jdk_42_method_150_code 81 = .ok (.putfield 15, 3) := by decide +kernel
theorem dsia1_84 : decode jdk_42_method_150_code 84 = .ok (.aload_n 0, 1) := by decide +kernel
theorem dsia1_85 : decode jdk_42_method_150_code 85 = .ok (.aload_n 3, 1) := by decide +kernel
theorem dsia1_86 : decode jdk_42_method_150_code 86 = .ok (.iconst 0, 1) := by decide +kernel
theorem dsia1_87 : decode jdk_42_method_150_code 87 = .ok (.iload 4, 2) := by decide +kernel
theorem dsia1_89 : decode jdk_42_method_150_code 89 = .ok (.iconst 1, 1) := by decide +kernel
theorem dsia1_90 : decode jdk_42_method_150_code 90 = .ok (.ishl, 1) := by decide +kernel
theorem dsia1_91 : decode jdk_42_method_150_code 91 = .ok (.invokestatic 54, 3) := by decide +kernel
theorem dsia1_94 : decode jdk_42_method_150_code 94 = .ok (.putfield 9, 3) := by decide +kernel
theorem dsia1_97 : decode jdk_42_method_150_code 97 = .ok (.return_, 1) := by decide +kernel
theorem ef_sia1 (m : MethodId) (x : Addr) (b : Addr) : entryFrame m #[.ref x, .ref b, .null] 5 = mkF m 0 #[.val (.ref x), .val (.ref b), .val (.null), .unset, .unset] [] := by first | (simp [entryFrame, mkF, argsToLocals, Value.category]; done) | rfl
set_option maxRecDepth 65536 in
set_option maxHeartbeats 40000000 in
theorem rm_sia1 {l : Launch} {Z : State} {a0 : Array Value} {zc : Int32} {fm : Value} (G : Gl Z a0 zc fm) (h : Heap) (x : Addr) (b : Addr) (t : Addr) (kt : ClassId) (cs : List Int32) (v0 v1 : Value) (B0 : Sb1 Z h b t kt cs) (hlt : cs.length ≤ 8) (E0 : Exa Z h x ST) (F_v : Fld Z h x ST "value" "[B" v0) (F_c : Fld Z h x ST "coder" "B" v1) :
    Met l Z consts_1 (⟨"java/lang/String", "<init>", "(Ljava/lang/AbstractStringBuilder;Ljava/lang/Void;)V"⟩ : MethodName) jdk_42_method_150_code 5 none ({ frames := 3, cells := 1, slots := 32, locals := 71 } : Room) #[.ref x, .ref b, .null] h [x] [x] (fun v h' => v = none ∧ ∃ u ku, S1 Z h' x u ku cs) := by
  have G0 := G
  obtain ⟨hw, hEL, SC, hz, SF, hfm, SA, SH, SL⟩ := G
  have hw1 : ∀ d ∈ StrChars.Road.words, d.before a0 Z = true := fun d q => hw d (sub1 d q)
  have hwA : ∀ d ∈ Bundle.stringAtoms, d.before a0 Z = true := fun d q => hw d (subA d q)
  refine Met.of (plainFor_of_name pn_1) ?_
  intro p e s m below meth c T hnm hret hlk hby hml hs w
  have hZ0 := w.old
  refine Run.cast (ef_sia1 m x b) ?_
  have B1 := B0
  obtain ⟨Eb, Vb, Cb, Nb, Mb, At, hcs, hcl⟩ := B0
  refine s_aload_n w (hb hby dsia1_0) rfl rfl (pc' := 1) rfl ?_
  refine w_objInit w (hw _ (List.mem_of_getElem? (i := 16) rfl)) (hw _ (List.mem_of_getElem? (i := 17) rfl)) (hw _ (List.mem_of_getElem? (i := 18) rfl)) (hb hby dsia1_1) (by rw [hml]; rfl) (by decide) (W := 0) (Nat.le_of_eq rfl) (by decide) (pc' := 4) rfl fun T w => ?_
  refine s_aload_n w (hb hby dsia1_4) rfl rfl (pc' := 5) rfl ?_
  refine w_virtualK w hEL (y := (⟨"java/lang/AbstractStringBuilder", "getValue", "()[B"⟩ : MethodName)) (y' := (⟨"java/lang/AbstractStringBuilder", "getValue", "()[B"⟩ : MethodName)) (C := "java/lang/StringBuilder") (a := b) (hw _ (List.mem_of_getElem? (i := 139) rfl)) (hw _ (List.mem_of_getElem? (i := 140) rfl)) (hw _ (List.mem_of_getElem? (i := 142) rfl)) rfl (hw _ (List.mem_of_getElem? (i := 142) rfl)) (hw _ (List.mem_of_getElem? (i := 141) rfl)) (hw _ (List.mem_of_getElem? (i := 71) rfl)) (hw _ (List.mem_of_getElem? (i := 143) rfl)) (by decide) Eb (rm_gv G0 h b t Vb) all0 all0 (argsL := []) (rest := []) (lenOf (by decide +kernel : parseMethodDescriptor "()[B" = some ⟨[], (some (.array .byte))⟩) rfl) rfl rfl (hb hby dsia1_5) (by rw [hml]; rfl) (W := 0) (Nat.le_of_eq rfl) (by decide) (by decide) (by decide) (by decide) (pc' := 8) rfl fun u1 N2 T h3 w K4 P5 => ?_
  obtain ⟨rfl, P6⟩ := P5
  obtain ⟨rfl, rfl⟩ := P6
  show Run p e below _ T (mkF m 8 #[.val (.ref x), .val (.ref b), .val (.null), .unset, .unset] [.ref t])
  refine s_astore_n w #[.val (.ref x), .val (.ref b), .val (.null), .val (.ref t), .unset] (hb hby dsia1_8) rfl rfl (pc' := 9) rfl ?_
  refine s_aload_n w (hb hby dsia1_9) rfl rfl (pc' := 10) rfl ?_
  refine w_virtualK w hEL (y := (⟨"java/lang/AbstractStringBuilder", "length", "()I"⟩ : MethodName)) (y' := (⟨"java/lang/StringBuilder", "length", "()I"⟩ : MethodName)) (C := "java/lang/StringBuilder") (a := b) (hw _ (List.mem_of_getElem? (i := 144) rfl)) (hw _ (List.mem_of_getElem? (i := 145) rfl)) (hw _ (List.mem_of_getElem? (i := 142) rfl)) rfl (hw _ (List.mem_of_getElem? (i := 147) rfl)) (hw _ (List.mem_of_getElem? (i := 148) rfl)) (hw _ (List.mem_of_getElem? (i := 63) rfl)) (hw _ (List.mem_of_getElem? (i := 149) rfl)) (by decide) Eb (rm_sln G0 h b _ Eb Nb) all0 all0 (argsL := []) (rest := []) (lenOf (by decide +kernel : parseMethodDescriptor "()I" = some ⟨[], (some .int)⟩) rfl) rfl rfl (hb hby dsia1_10) (by rw [hml]; rfl) (W := 0) (Nat.le_of_eq rfl) (by decide) (by decide) (by decide) (by decide) (pc' := 13) rfl fun u7 N8 T h9 w K10 P11 => ?_
  obtain ⟨rfl, P12⟩ := P11
  obtain ⟨rfl, rfl⟩ := P12
  show Run p e below _ T (mkF m 13 #[.val (.ref x), .val (.ref b), .val (.null), .val (.ref t), .unset] [.int (Int32.ofNat cs.length)])
  refine s_istore w #[.val (.ref x), .val (.ref b), .val (.null), .val (.ref t), .val (.int (Int32.ofNat cs.length))] (hb hby dsia1_13) rfl (pc' := 15) rfl ?_
  refine s_aload_n w (hb hby dsia1_15) rfl rfl (pc' := 16) rfl ?_
  refine w_virtualK w hEL (y := (⟨"java/lang/AbstractStringBuilder", "isLatin1", "()Z"⟩ : MethodName)) (y' := (⟨"java/lang/AbstractStringBuilder", "isLatin1", "()Z"⟩ : MethodName)) (C := "java/lang/StringBuilder") (a := b) (hw _ (List.mem_of_getElem? (i := 152) rfl)) (hw _ (List.mem_of_getElem? (i := 153) rfl)) (hw _ (List.mem_of_getElem? (i := 142) rfl)) rfl (hw _ (List.mem_of_getElem? (i := 155) rfl)) (hw _ (List.mem_of_getElem? (i := 154) rfl)) (hw _ (List.mem_of_getElem? (i := 71) rfl)) (hw _ (List.mem_of_getElem? (i := 156) rfl)) (by decide) Eb (rm_ail1 G0 h b Cb) all0 all0 (argsL := []) (rest := []) (lenOf (by decide +kernel : parseMethodDescriptor "()Z" = some ⟨[], (some .boolean)⟩) rfl) rfl rfl (hb hby dsia1_16) (by rw [hml]; rfl) (W := 0) (Nat.le_of_eq rfl) (by decide) (by decide) (by decide) (by decide) (pc' := 19) rfl fun u13 N14 T h15 w K16 P17 => ?_
  obtain ⟨rfl, P18⟩ := P17
  obtain ⟨rfl, rfl⟩ := P18
  show Run p e below _ T (mkF m 19 #[.val (.ref x), .val (.ref b), .val (.null), .val (.ref t), .val (.int (Int32.ofNat cs.length))] [.int 0])
  refine s_if_eq w (hb hby dsia1_19) (by decide) (pc1 := 22) rfl (pc2 := 41) rfl (fun q => absurd q (by decide)) (fun _ => ?_)
  refine w_getS w (hw _ (List.mem_of_getElem? (i := 19) rfl)) Via.refl (SC.ext w.old) (hb hby dsia1_41) (pc' := 44) rfl fun T w => ?_
  refine s_if_eq w (hb hby dsia1_44) (by decide) (pc1 := 47) rfl (pc2 := 79) rfl (fun ct20 => ?_) (fun ct20 => ?_)
  · skip
    refine s_aload_n w (hb hby dsia1_47) rfl rfl (pc' := 48) rfl ?_
    refine w_getF w (hw _ (List.mem_of_getElem? (i := 249) rfl)) Via.refl Mb (hb hby dsia1_48) (pc' := 51) rfl fun T w => ?_
    refine s_if_eq w (hb hby dsia1_51) (by decide) (pc1 := 54) rfl (pc2 := 79) rfl (fun q => absurd q (by decide)) (fun _ => ?_)
    refine s_aload_n w (hb hby dsia1_79) rfl rfl (pc' := 80) rfl ?_
    refine s_iconst w (hb hby dsia1_80) (v := 1) rfl (pc' := 81) rfl ?_
    have sn : Jvm.RoadKit.slotOf Z "java/lang/String" "value" "[B" ≠ Jvm.RoadKit.slotOf Z "java/lang/String" "coder" "B" := slot_ne (Or.inr (hw _ (List.mem_of_getElem? (i := 34) rfl))) (Or.inr (hw _ (List.mem_of_getElem? (i := 32) rfl))) (by decide) (t := .array .byte) (t' := .byte) (by decide) (by decide)
    refine w_putF w (hw _ (List.mem_of_getElem? (i := 31) rfl)) Via.refl F_c E0 (Or.inr ⟨(hw _ (List.mem_of_getElem? (i := 32) rfl)), rfl, hnm⟩) (hw _ (List.mem_of_getElem? (i := 6) rfl)) (ty := .byte) (by decide) rfl rfl (hb hby dsia1_81) (Or.inl (List.mem_singleton.mpr rfl)) (Or.inr (List.mem_singleton.mpr rfl)) (pc' := 84) rfl fun T g1 w W1 F1 Y1 => ?_
    have At1 := At.other W1 (Exa.neArv E0 At (hw _ (List.mem_of_getElem? (i := 6) rfl))).symm
    refine s_aload_n w (hb hby dsia1_84) rfl rfl (pc' := 85) rfl ?_
    refine s_aload_n w (hb hby dsia1_85) rfl rfl (pc' := 86) rfl ?_
    refine s_iconst w (hb hby dsia1_86) (v := 0) rfl (pc' := 87) rfl ?_
    refine s_iload w (hb hby dsia1_87) rfl (pc' := 89) rfl ?_
    refine s_iconst w (hb hby dsia1_89) (v := 1) rfl (pc' := 90) rfl ?_
    refine s_ishl w (hb hby dsia1_90) (pc' := 91) rfl ?_
    rw [ofN_shl (by omega)]
    refine w_staticN w hEL (y := (⟨"java/util/Arrays", "copyOfRange", "([BII)[B"⟩ : MethodName)) (hw _ (List.mem_of_getElem? (i := 157) rfl)) (hw _ (List.mem_of_getElem? (i := 158) rfl)) (hw _ (List.mem_of_getElem? (i := 159) rfl)) (hw _ (List.mem_of_getElem? (i := 160) rfl)) (by decide) (rm_cor G0 g1 t _ (2 * cs.length) (2 * 16) kt _ rfl (by omega) (by decide) (by omega) At1 (wroom_len hcl)) all0 all0 (argsL := [.ref t, .int 0, .int (Int32.ofNat (2 * cs.length))]) (rest := [.ref x]) (lenOf (by decide +kernel : parseMethodDescriptor "([BII)[B" = some ⟨[(.array .byte), .int, .int], (some (.array .byte))⟩) rfl) rfl rfl (hb hby dsia1_91) (by rw [hml]; rfl) (W := 1) (Nat.le_of_eq rfl) (by decide) (by decide) (by decide) (by decide) (pc' := 94) rfl fun u22 N23 T h24 w K25 P26 => ?_
    obtain ⟨rfl, P27⟩ := P26
    obtain ⟨u, ku, rfl, P8, P9⟩ := P27
    rw [wroom_take] at P9
    have E2 := Keep.ext0 K25
    show Run p e below _ T (mkF m 94 #[.val (.ref x), .val (.ref b), .val (.null), .val (.ref t), .val (.int (Int32.ofNat cs.length))] [.ref u, .ref x])
    refine w_putF w (hw _ (List.mem_of_getElem? (i := 33) rfl)) Via.refl ((F_v.other W1 (Or.inr sn)).ext E2) (Y1.ext E2) (Or.inr ⟨(hw _ (List.mem_of_getElem? (i := 34) rfl)), rfl, hnm⟩) (hw _ (List.mem_of_getElem? (i := 6) rfl)) (ty := (.array .byte)) (by decide) rfl rfl (hb hby dsia1_94) (Or.inl (List.mem_singleton.mpr rfl)) (Or.inr (List.mem_singleton.mpr rfl)) (pc' := 97) rfl fun T g2 w W2 F2 Y2 => ?_
    have nu : u ≠ x := fun z => by obtain ⟨cl, k0, A, -⟩ := Y1; have := (Array.getElem?_eq_some_iff.mp A).1; rw [← z] at this; exact absurd P8 (Nat.not_le.mpr this)
    exact w_return w hEL hs hlk hret (hb hby dsia1_97) (by decide) (by decide) ⟨rfl, u, ku, Y2, F2, (F1.ext E2).other W2 (Or.inr sn.symm), P9.other W2 nu, hcs, hlt⟩
  · exact absurd ct20 hz
theorem dsib1_0 : decode jdk_42_method_53_code 0 = .ok (.aload_n 0, 1) := by decide +kernel
theorem dsib1_1 : decode jdk_42_method_53_code 1 = .ok (.aload_n 1, 1) := by decide +kernel
theorem dsib1_2 : decode jdk_42_method_53_code 2 = .ok (.aconst_null, 1) := by decide +kernel
theorem dsib1_3 : decode jdk_42_method_53_code 3 = .ok (.invokespecial 489, 3) := by decide +kernel
theorem dsib1_6 : decode jdk_42_method_53_code 6 = .ok (.return_, 1) := by decide +kernel
theorem ef_sib1 (m : MethodId) (x : Addr) (b : Addr) : entryFrame m #[.ref x, .ref b] 2 = mkF m 0 #[.val (.ref x), .val (.ref b)] [] := by first | (simp [entryFrame, mkF, argsToLocals, Value.category]; done) | rfl
set_option maxRecDepth 65536 in
set_option maxHeartbeats 40000000 in
theorem rm_sib1 {l : Launch} {Z : State} {a0 : Array Value} {zc : Int32} {fm : Value} (G : Gl Z a0 zc fm) (h : Heap) (x : Addr) (b : Addr) (t : Addr) (kt : ClassId) (cs : List Int32) (v0 v1 : Value) (B0 : Sb1 Z h b t kt cs) (hlt : cs.length ≤ 8) (E0 : Exa Z h x ST) (F_v : Fld Z h x ST "value" "[B" v0) (F_c : Fld Z h x ST "coder" "B" v1) :
    Met l Z consts_1 (⟨"java/lang/String", "<init>", "(Ljava/lang/StringBuilder;)V"⟩ : MethodName) jdk_42_method_53_code 2 none ({ frames := 4, cells := 1, slots := 32, locals := 87 } : Room) #[.ref x, .ref b] h [x] [x] (fun v h' => v = none ∧ ∃ u ku, S1 Z h' x u ku cs) := by
  have G0 := G
  obtain ⟨hw, hEL, SC, hz, SF, hfm, SA, SH, SL⟩ := G
  have hw1 : ∀ d ∈ StrChars.Road.words, d.before a0 Z = true := fun d q => hw d (sub1 d q)
  have hwA : ∀ d ∈ Bundle.stringAtoms, d.before a0 Z = true := fun d q => hw d (subA d q)
  refine Met.of (plainFor_of_name pn_1) ?_
  intro p e s m below meth c T hnm hret hlk hby hml hs w
  have hZ0 := w.old
  refine Run.cast (ef_sib1 m x b) ?_
  refine s_aload_n w (hb hby dsib1_0) rfl rfl (pc' := 1) rfl ?_
  refine s_aload_n w (hb hby dsib1_1) rfl rfl (pc' := 2) rfl ?_
  refine s_anull w (hb hby dsib1_2) (pc' := 3) rfl ?_
  refine w_specialN w hEL (y := (⟨"java/lang/String", "<init>", "(Ljava/lang/AbstractStringBuilder;Ljava/lang/Void;)V"⟩ : MethodName)) (a := x) rfl (hw _ (List.mem_of_getElem? (i := 136) rfl)) (hw _ (List.mem_of_getElem? (i := 137) rfl)) (hw _ (List.mem_of_getElem? (i := 7) rfl)) (hw _ (List.mem_of_getElem? (i := 138) rfl)) (by decide) (rm_sia1 G0 h x b t kt cs v0 v1 B0 hlt E0 F_v F_c) (allS (List.mem_of_getElem? (i := 0) rfl) all0) (allS (Or.inl (List.mem_of_getElem? (i := 0) rfl)) all0) (argsL := [.ref b, .null]) (rest := []) (lenOf (by decide +kernel : parseMethodDescriptor "(Ljava/lang/AbstractStringBuilder;Ljava/lang/Void;)V" = some ⟨[(.object "java/lang/AbstractStringBuilder"), (.object "java/lang/Void")], none⟩) rfl) rfl rfl (hb hby dsib1_3) (by rw [hml]; rfl) (W := 0) (Nat.le_of_eq rfl) (by decide) (by decide) (by decide) (by decide) (pc' := 6) rfl fun u1 N2 T h3 w K4 P5 => ?_
  obtain ⟨rfl, P6⟩ := P5
  obtain ⟨rfl, P9⟩ := P6
  show Run p e below _ T (mkF m 6 #[.val (.ref x), .val (.ref b)] [])
  exact w_return w hEL hs hlk hret (hb hby dsib1_6) (by decide) (by decide) ⟨rfl, P9⟩
theorem dtos1_0 : decode jdk_67_method_42_code 0 = .ok (.new 18, 3) := by decide +kernel
theorem dtos1_3 : decode jdk_67_method_42_code 3 = .ok (.dup, 1) := by decide +kernel
theorem dtos1_4 : decode jdk_67_method_42_code 4 = .ok (.aload_n 0, 1) := by decide +kernel
theorem dtos1_5 : decode jdk_67_method_42_code 5 = .ok (.invokespecial 137, 3) := by decide +kernel
theorem dtos1_8 : decode jdk_67_method_42_code 8 = .ok (.areturn, 1) := by decide +kernel
theorem ef_tos1 (m : MethodId) (b : Addr) : entryFrame m #[.ref b] 1 = mkF m 0 #[.val (.ref b)] [] := by first | (simp [entryFrame, mkF, argsToLocals, Value.category]; done) | rfl
set_option maxRecDepth 65536 in
set_option maxHeartbeats 40000000 in
theorem rm_tos1 {l : Launch} {Z : State} {a0 : Array Value} {zc : Int32} {fm : Value} (G : Gl Z a0 zc fm) (h : Heap) (b : Addr) (t : Addr) (kt : ClassId) (cs : List Int32) (B0 : Sb1 Z h b t kt cs) (hlt : cs.length ≤ 8) :
    Met l Z consts_1 (⟨"java/lang/StringBuilder", "toString", "()Ljava/lang/String;"⟩ : MethodName) jdk_67_method_42_code 1 (some (.object "java/lang/String")) ({ frames := 5, cells := 2, slots := 36, locals := 101 } : Room) #[.ref b] h [] [] (fun v h' => ∃ x, v = some (.ref x) ∧ Str Z h' x cs) := by
  have G0 := G
  obtain ⟨hw, hEL, SC, hz, SF, hfm, SA, SH, SL⟩ := G
  have hw1 : ∀ d ∈ StrChars.Road.words, d.before a0 Z = true := fun d q => hw d (sub1 d q)
  have hwA : ∀ d ∈ Bundle.stringAtoms, d.before a0 Z = true := fun d q => hw d (subA d q)
  refine Met.of (plainFor_of_name pn_5) ?_
  intro p e s m below meth c T hnm hret hlk hby hml hs w
  have hZ0 := w.old
  refine Run.cast (ef_tos1 m b) ?_
  refine w_new w (hw _ (List.mem_of_getElem? (i := 132) rfl)) (hw _ (List.mem_of_getElem? (i := 6) rfl)) (hw _ (List.mem_of_getElem? (i := 7) rfl)) (hb hby dtos1_0) (pc' := 3) rfl (by decide) (by decide) fun T h1 x2 w E3 q4 r5 A6 D7 => ?_
  have F_coder_x2 : Fld Z h1 x2 "java/lang/String" "coder" "B" (.int 0) := D7 (Or.inr (hw _ (List.mem_of_getElem? (i := 32) rfl))) (ty := .byte) (by decide)
  have F_value_x2 : Fld Z h1 x2 "java/lang/String" "value" "[B" (.null) := D7 (Or.inr (hw _ (List.mem_of_getElem? (i := 34) rfl))) (ty := (.array .byte)) (by decide)
  refine s_dup w (hb hby dtos1_3) rfl (pc' := 4) rfl ?_
  refine s_aload_n w (hb hby dtos1_4) rfl rfl (pc' := 5) rfl ?_
  refine w_specialN w hEL (y := (⟨"java/lang/String", "<init>", "(Ljava/lang/StringBuilder;)V"⟩ : MethodName)) (a := x2) rfl (hw _ (List.mem_of_getElem? (i := 133) rfl)) (hw _ (List.mem_of_getElem? (i := 134) rfl)) (hw _ (List.mem_of_getElem? (i := 7) rfl)) (hw _ (List.mem_of_getElem? (i := 135) rfl)) (by decide) (rm_sib1 G0 h1 x2 b t kt cs _ _ (B0.ext E3) hlt A6 F_value_x2 F_coder_x2) (allS (List.mem_of_getElem? (i := 0) rfl) all0) (allS (Or.inr r5) all0) (argsL := [.ref b]) (rest := [.ref x2]) (lenOf (by decide +kernel : parseMethodDescriptor "(Ljava/lang/StringBuilder;)V" = some ⟨[(.object "java/lang/StringBuilder")], none⟩) rfl) rfl rfl (hb hby dtos1_5) (by rw [hml]; rfl) (W := 1) (Nat.le_of_eq rfl) (by decide) (by decide) (by decide) (by decide) (pc' := 8) rfl fun u8 N9 T h10 w K11 P12 => ?_
  obtain ⟨rfl, P13⟩ := P12
  obtain ⟨rfl, u, ku, P9⟩ := P13
  show Run p e below _ T (mkF m 8 #[.val (.ref b)] [.ref x2])
  exact w_areturn w hEL hs hlk hret rfl rfl (hb hby dtos1_8) (by decide) (by decide) ⟨x2, rfl, P9.str⟩
theorem dsil0_0 : decode jdk_42_method_154_code 0 = .ok (.getstatic 38, 3) := by decide +kernel
theorem dsil0_3 : decode jdk_42_method_154_code 3 = .ok (.ifCond .eq 14, 3) := by decide +kernel
theorem dsil0_6 : decode jdk_42_method_154_code 6 = .ok (.aload_n 0, 1) := by decide +kernel
theorem dsil0_7 : decode jdk_42_method_154_code 7 = .ok (.getfield 15, 3) := by decide +kernel
theorem dsil0_10 : decode jdk_42_method_154_code 10 = .ok (.ifCond .ne 7, 3) := by decide +kernel
theorem dsil0_13 : decode jdk_42_method_154_code 13 = .ok (.iconst 1, 1) := by decide +kernel
theorem dsil0_14 : decode jdk_42_method_154_code 14 = .ok (.goto 4, 3) := by decide +kernel
theorem dsil0_17 : decode jdk_42_method_154_code 17 = .ok (.iconst 0, 1) := by decide +kernel
theorem dsil0_18 : decode jdk_42_method_154_code 18 = .ok (.ireturn, 1) := by decide +kernel
theorem ef_sil0 (m : MethodId) (x : Addr) : entryFrame m #[.ref x] 1 = mkF m 0 #[.val (.ref x)] [] := by first | (simp [entryFrame, mkF, argsToLocals, Value.category]; done) | rfl
set_option maxRecDepth 65536 in
set_option maxHeartbeats 40000000 in
theorem rm_sil0 {l : Launch} {Z : State} {a0 : Array Value} {zc : Int32} {fm : Value} (G : Gl Z a0 zc fm) (h : Heap) (x : Addr) (F : Fld Z h x ST "coder" "B" (.int 0)) :
    Met l Z consts_1 (⟨"java/lang/String", "isLatin1", "()Z"⟩ : MethodName) jdk_42_method_154_code 1 (some .boolean) ({ frames := 0, cells := 0, slots := 0, locals := 0 } : Room) #[.ref x] h [] [] (fun v h' => v = some (.int 1) ∧ h = h') := by
  have G0 := G
  obtain ⟨hw, hEL, SC, hz, SF, hfm, SA, SH, SL⟩ := G
  have hw1 : ∀ d ∈ StrChars.Road.words, d.before a0 Z = true := fun d q => hw d (sub1 d q)
  have hwA : ∀ d ∈ Bundle.stringAtoms, d.before a0 Z = true := fun d q => hw d (subA d q)
  refine Met.of (plainFor_of_name pn_1) ?_
  intro p e s m below meth c T hnm hret hlk hby hml hs w
  have hZ0 := w.old
  refine Run.cast (ef_sil0 m x) ?_
  refine w_getS w (hw _ (List.mem_of_getElem? (i := 19) rfl)) Via.refl (SC.ext w.old) (hb hby dsil0_0) (pc' := 3) rfl fun T w => ?_
  refine s_if_eq w (hb hby dsil0_3) (by decide) (pc1 := 6) rfl (pc2 := 17) rfl (fun ct1 => ?_) (fun ct1 => ?_)
  · -- ¬ (zc = 0)
    refine s_aload_n w (hb hby dsil0_6) rfl rfl (pc' := 7) rfl ?_
    refine w_getF w (hw _ (List.mem_of_getElem? (i := 31) rfl)) Via.refl F (hb hby dsil0_7) (pc' := 10) rfl fun T w => ?_
    refine s_if_ne w (hb hby dsil0_10) (by decide) (pc1 := 13) rfl (pc2 := 17) rfl (fun _ => ?_) (fun q => absurd q (by decide))
    refine s_iconst w (hb hby dsil0_13) (v := 1) rfl (pc' := 14) rfl ?_
    refine s_goto w (hb hby dsil0_14) (by decide) (pc' := 18) rfl ?_
    exact w_ireturn w hEL hs hlk hret rfl (Or.inr (Or.inl rfl)) (hb hby dsil0_18) (by decide) (by decide) ⟨rfl, rfl⟩
  · -- zc = 0
    refine s_iconst w (hb hby dsil0_17) (v := 0) rfl (pc' := 18) rfl ?_
    exact absurd ct1 hz
theorem dsil1_0 : decode jdk_42_method_154_code 0 = .ok (.getstatic 38, 3) := by decide +kernel
theorem dsil1_3 : decode jdk_42_method_154_code 3 = .ok (.ifCond .eq 14, 3) := by decide +kernel
theorem dsil1_6 : decode jdk_42_method_154_code 6 = .ok (.aload_n 0, 1) := by decide +kernel
theorem dsil1_7 : decode jdk_42_method_154_code 7 = .ok (.getfield 15, 3) := by decide +kernel
theorem dsil1_10 : decode jdk_42_method_154_code 10 = .ok (.ifCond .ne 7, 3) := by decide +kernel
theorem dsil1_13 : decode jdk_42_method_154_code 13 = .ok (.iconst 1, 1) := by decide +kernel
theorem dsil1_14 : decode jdk_42_method_154_code 14 = .ok (.goto 4, 3) := by decide +kernel
theorem dsil1_17 : decode jdk_42_method_154_code 17 = .ok (.iconst 0, 1) := by decide +kernel
theorem dsil1_18 : decode jdk_42_method_154_code 18 = .ok (.ireturn, 1) := by decide +kernel
theorem ef_sil1 (m : MethodId) (x : Addr) : entryFrame m #[.ref x] 1 = mkF m 0 #[.val (.ref x)] [] := by first | (simp [entryFrame, mkF, argsToLocals, Value.category]; done) | rfl
set_option maxRecDepth 65536 in
set_option maxHeartbeats 40000000 in
theorem rm_sil1 {l : Launch} {Z : State} {a0 : Array Value} {zc : Int32} {fm : Value} (G : Gl Z a0 zc fm) (h : Heap) (x : Addr) (F : Fld Z h x ST "coder" "B" (.int 1)) :
    Met l Z consts_1 (⟨"java/lang/String", "isLatin1", "()Z"⟩ : MethodName) jdk_42_method_154_code 1 (some .boolean) ({ frames := 0, cells := 0, slots := 0, locals := 0 } : Room) #[.ref x] h [] [] (fun v h' => v = some (.int 0) ∧ h = h') := by
  have G0 := G
  obtain ⟨hw, hEL, SC, hz, SF, hfm, SA, SH, SL⟩ := G
  have hw1 : ∀ d ∈ StrChars.Road.words, d.before a0 Z = true := fun d q => hw d (sub1 d q)
  have hwA : ∀ d ∈ Bundle.stringAtoms, d.before a0 Z = true := fun d q => hw d (subA d q)
  refine Met.of (plainFor_of_name pn_1) ?_
  intro p e s m below meth c T hnm hret hlk hby hml hs w
  have hZ0 := w.old
  refine Run.cast (ef_sil1 m x) ?_
  refine w_getS w (hw _ (List.mem_of_getElem? (i := 19) rfl)) Via.refl (SC.ext w.old) (hb hby dsil1_0) (pc' := 3) rfl fun T w => ?_
  refine s_if_eq w (hb hby dsil1_3) (by decide) (pc1 := 6) rfl (pc2 := 17) rfl (fun ct1 => ?_) (fun ct1 => ?_)
  · -- ¬ (zc = 0)
    refine s_aload_n w (hb hby dsil1_6) rfl rfl (pc' := 7) rfl ?_
    refine w_getF w (hw _ (List.mem_of_getElem? (i := 31) rfl)) Via.refl F (hb hby dsil1_7) (pc' := 10) rfl fun T w => ?_
    refine s_if_ne w (hb hby dsil1_10) (by decide) (pc1 := 13) rfl (pc2 := 17) rfl (fun q => absurd q (by decide)) (fun _ => ?_)
    refine s_iconst w (hb hby dsil1_17) (v := 0) rfl (pc' := 18) rfl ?_
    exact w_ireturn w hEL hs hlk hret rfl (Or.inr (Or.inl rfl)) (hb hby dsil1_18) (by decide) (by decide) ⟨rfl, rfl⟩
  · -- zc = 0
    refine s_iconst w (hb hby dsil1_17) (v := 0) rfl (pc' := 18) rfl ?_
    exact w_ireturn w hEL hs hlk hret rfl (Or.inr (Or.inl rfl)) (hb hby dsil1_18) (by decide) (by decide) ⟨rfl, rfl⟩
theorem dpci0_0 : decode jdk_41_method_11_code 0 = .ok (.iload_n 0, 1) := by decide +kernel
theorem dpci0_1 : decode jdk_41_method_11_code 1 = .ok (.ifCond .lt 8, 3) := by decide +kernel
theorem dpci0_4 : decode jdk_41_method_11_code 4 = .ok (.iload_n 0, 1) := by decide +kernel
theorem dpci0_5 : decode jdk_41_method_11_code 5 = .ok (.iload_n 1, 1) := by decide +kernel
theorem dpci0_6 : decode jdk_41_method_11_code 6 = .ok (.if_icmp .lt 10, 3) := by decide +kernel
theorem dpci0_9 : decode jdk_41_method_11_code 9 = .ok (.aload_n 2, 1) := by decide +kernel
theorem dpci0_10 : decode jdk_41_method_11_code 10 = .ok (.iload_n 0, 1) := by decide +kernel
theorem dpci0_11 : decode jdk_41_method_11_code 11 = .ok (.iload_n 1, 1) := by decide +kernel
theorem dpci0_12 : decode jdk_41_method_11_code 12 = .ok (.invokestatic 95, 3) := by decide +kernel
theorem dpci0_15 : decode jdk_41_method_11_code 15 = .ok (.athrow, 1) := by decide +kernel
theorem dpci0_16 : decode jdk_41_method_11_code 16 = .ok (.iload_n 0, 1) := by decide +kernel
theorem dpci0_17 : decode jdk_41_method_11_code 17 = .ok (.ireturn, 1) := by decide +kernel
theorem ef_pci0 (m : MethodId) (I0 : Int32) (N : Int32) : entryFrame m #[.int I0, .int N, .null] 3 = mkF m 0 #[.val (.int I0), .val (.int N), .val (.null)] [] := by first | (simp [entryFrame, mkF, argsToLocals, Value.category]; done) | rfl
set_option maxRecDepth 65536 in
set_option maxHeartbeats 40000000 in
theorem rm_pci0 {l : Launch} {Z : State} {a0 : Array Value} {zc : Int32} {fm : Value} (G : Gl Z a0 zc fm) (h : Heap) (I0 : Int32) (N : Int32) (i n : Nat) (hI : I0 = Int32.ofNat i) (hN : N = Int32.ofNat n) (hi : i < n) (hn : n ≤ 2000) :
    Met l Z consts_1 (⟨"jdk/internal/util/Preconditions", "checkIndex", "(IILjava/util/function/BiFunction;)I"⟩ : MethodName) jdk_41_method_11_code 3 (some .int) ({ frames := 0, cells := 0, slots := 0, locals := 0 } : Room) #[.int I0, .int N, .null] h [] [] (fun v h' => v = some (.int I0) ∧ h = h') := by
  have G0 := G
  obtain ⟨hw, hEL, SC, hz, SF, hfm, SA, SH, SL⟩ := G
  have hw1 : ∀ d ∈ StrChars.Road.words, d.before a0 Z = true := fun d q => hw d (sub1 d q)
  have hwA : ∀ d ∈ Bundle.stringAtoms, d.before a0 Z = true := fun d q => hw d (subA d q)
  refine Met.of (plainFor_of_name pn_2) ?_
  intro p e s m below meth c T hnm hret hlk hby hml hs w
  have hZ0 := w.old
  refine Run.cast (ef_pci0 m I0 N) ?_
  refine s_iload_n w (hb hby dpci0_0) rfl (pc' := 1) rfl ?_
  refine s_if_lt w (hb hby dpci0_1) (by decide) (pc1 := 4) rfl (pc2 := 9) rfl (fun ct1 => ?_) (fun ct1 => ?_)
  · skip
    refine s_iload_n w (hb hby dpci0_4) rfl (pc' := 5) rfl ?_
    refine s_iload_n w (hb hby dpci0_5) rfl (pc' := 6) rfl ?_
    refine s_icmp_lt w (hb hby dpci0_6) (by decide) (pc1 := 9) rfl (pc2 := 16) rfl (fun ct2 => ?_) (fun ct2 => ?_)
    · exact absurd (by rw [hI, hN]; exact (ofNat_cmp (by omega) (by omega)).mpr hi) ct2
    · skip
      refine s_iload_n w (hb hby dpci0_16) rfl (pc' := 17) rfl ?_
      exact w_ireturn w hEL hs hlk hret rfl (Or.inl rfl) (hb hby dpci0_17) (by decide) (by decide) ⟨rfl, rfl⟩
  · exact absurd ct1 (by rw [hI]; exact ofNat_lt (by omega))
theorem dpci1_0 : decode jdk_41_method_11_code 0 = .ok (.iload_n 0, 1) := by decide +kernel
theorem dpci1_1 : decode jdk_41_method_11_code 1 = .ok (.ifCond .lt 8, 3) := by decide +kernel
theorem dpci1_4 : decode jdk_41_method_11_code 4 = .ok (.iload_n 0, 1) := by decide +kernel
theorem dpci1_5 : decode jdk_41_method_11_code 5 = .ok (.iload_n 1, 1) := by decide +kernel
theorem dpci1_6 : decode jdk_41_method_11_code 6 = .ok (.if_icmp .lt 10, 3) := by decide +kernel
theorem dpci1_9 : decode jdk_41_method_11_code 9 = .ok (.aload_n 2, 1) := by decide +kernel
theorem dpci1_10 : decode jdk_41_method_11_code 10 = .ok (.iload_n 0, 1) := by decide +kernel
theorem dpci1_11 : decode jdk_41_method_11_code 11 = .ok (.iload_n 1, 1) := by decide +kernel
theorem dpci1_12 : decode jdk_41_method_11_code 12 = .ok (.invokestatic 95, 3) := by decide +kernel
theorem dpci1_15 : decode jdk_41_method_11_code 15 = .ok (.athrow, 1) := by decide +kernel
theorem dpci1_16 : decode jdk_41_method_11_code 16 = .ok (.iload_n 0, 1) := by decide +kernel
theorem dpci1_17 : decode jdk_41_method_11_code 17 = .ok (.ireturn, 1) := by decide +kernel
theorem ef_pci1 (m : MethodId) (I0 : Int32) (N : Int32) (ra : Addr) : entryFrame m #[.int I0, .int N, .ref ra] 3 = mkF m 0 #[.val (.int I0), .val (.int N), .val (.ref ra)] [] := by first | (simp [entryFrame, mkF, argsToLocals, Value.category]; done) | rfl
set_option maxRecDepth 65536 in
set_option maxHeartbeats 40000000 in
theorem rm_pci1 {l : Launch} {Z : State} {a0 : Array Value} {zc : Int32} {fm : Value} (G : Gl Z a0 zc fm) (h : Heap) (I0 : Int32) (N : Int32) (ra : Addr) (i n : Nat) (hI : I0 = Int32.ofNat i) (hN : N = Int32.ofNat n) (hi : i < n) (hn : n ≤ 2000) :
    Met l Z consts_1 (⟨"jdk/internal/util/Preconditions", "checkIndex", "(IILjava/util/function/BiFunction;)I"⟩ : MethodName) jdk_41_method_11_code 3 (some .int) ({ frames := 0, cells := 0, slots := 0, locals := 0 } : Room) #[.int I0, .int N, .ref ra] h [] [] (fun v h' => v = some (.int I0) ∧ h = h') := by
  have G0 := G
  obtain ⟨hw, hEL, SC, hz, SF, hfm, SA, SH, SL⟩ := G
  have hw1 : ∀ d ∈ StrChars.Road.words, d.before a0 Z = true := fun d q => hw d (sub1 d q)
  have hwA : ∀ d ∈ Bundle.stringAtoms, d.before a0 Z = true := fun d q => hw d (subA d q)
  refine Met.of (plainFor_of_name pn_2) ?_
  intro p e s m below meth c T hnm hret hlk hby hml hs w
  have hZ0 := w.old
  refine Run.cast (ef_pci1 m I0 N ra) ?_
  refine s_iload_n w (hb hby dpci1_0) rfl (pc' := 1) rfl ?_
  refine s_if_lt w (hb hby dpci1_1) (by decide) (pc1 := 4) rfl (pc2 := 9) rfl (fun ct1 => ?_) (fun ct1 => ?_)
  · skip
    refine s_iload_n w (hb hby dpci1_4) rfl (pc' := 5) rfl ?_
    refine s_iload_n w (hb hby dpci1_5) rfl (pc' := 6) rfl ?_
    refine s_icmp_lt w (hb hby dpci1_6) (by decide) (pc1 := 9) rfl (pc2 := 16) rfl (fun ct2 => ?_) (fun ct2 => ?_)
    · exact absurd (by rw [hI, hN]; exact (ofNat_cmp (by omega) (by omega)).mpr hi) ct2
    · skip
      refine s_iload_n w (hb hby dpci1_16) rfl (pc' := 17) rfl ?_
      exact w_ireturn w hEL hs hlk hret rfl (Or.inl rfl) (hb hby dpci1_17) (by decide) (by decide) ⟨rfl, rfl⟩
  · exact absurd ct1 (by rw [hI]; exact ofNat_lt (by omega))
theorem dsci_0 : decode jdk_42_method_155_code 0 = .ok (.iload_n 0, 1) := by decide +kernel
theorem dsci_1 : decode jdk_42_method_155_code 1 = .ok (.iload_n 1, 1) := by decide +kernel
theorem dsci_2 : decode jdk_42_method_155_code 2 = .ok (.getstatic 1053, 3) := by decide +kernel
theorem dsci_5 : decode jdk_42_method_155_code 5 = .ok (.invokestatic 1059, 3) := by decide +kernel
theorem dsci_8 : decode jdk_42_method_155_code 8 = .ok (.pop, 1) := by decide +kernel
theorem dsci_9 : decode jdk_42_method_155_code 9 = .ok (.return_, 1) := by decide +kernel
theorem ef_sci (m : MethodId) (I0 : Int32) (N : Int32) : entryFrame m #[.int I0, .int N] 2 = mkF m 0 #[.val (.int I0), .val (.int N)] [] := by first | (simp [entryFrame, mkF, argsToLocals, Value.category]; done) | rfl
set_option maxRecDepth 65536 in
set_option maxHeartbeats 40000000 in
theorem rm_sci {l : Launch} {Z : State} {a0 : Array Value} {zc : Int32} {fm : Value} (G : Gl Z a0 zc fm) (h : Heap) (I0 : Int32) (N : Int32) (i n : Nat) (hI : I0 = Int32.ofNat i) (hN : N = Int32.ofNat n) (hi : i < n) (hn : n ≤ 2000) :
    Met l Z consts_1 (⟨"java/lang/String", "checkIndex", "(II)V"⟩ : MethodName) jdk_42_method_155_code 2 none ({ frames := 1, cells := 0, slots := 0, locals := 14 } : Room) #[.int I0, .int N] h [] [] (fun v h' => v = none ∧ h = h') := by
  have G0 := G
  obtain ⟨hw, hEL, SC, hz, SF, hfm, SA, SH, SL⟩ := G
  have hw1 : ∀ d ∈ StrChars.Road.words, d.before a0 Z = true := fun d q => hw d (sub1 d q)
  have hwA : ∀ d ∈ Bundle.stringAtoms, d.before a0 Z = true := fun d q => hw d (subA d q)
  refine Met.of (plainFor_of_name pn_1) ?_
  intro p e s m below meth c T hnm hret hlk hby hml hs w
  have hZ0 := w.old
  refine Run.cast (ef_sci m I0 N) ?_
  rcases ref_cases hfm with rfl | ⟨ra, rfl⟩
  · skip
    refine s_iload_n w (hb hby dsci_0) rfl (pc' := 1) rfl ?_
    refine s_iload_n w (hb hby dsci_1) rfl (pc' := 2) rfl ?_
    refine w_getS w (hw _ (List.mem_of_getElem? (i := 193) rfl)) Via.refl (SF.ext w.old) (hb hby dsci_2) (pc' := 5) rfl fun T w => ?_
    refine w_staticN w hEL (y := (⟨"jdk/internal/util/Preconditions", "checkIndex", "(IILjava/util/function/BiFunction;)I"⟩ : MethodName)) (hw _ (List.mem_of_getElem? (i := 195) rfl)) (hw _ (List.mem_of_getElem? (i := 196) rfl)) (hw _ (List.mem_of_getElem? (i := 194) rfl)) (hw _ (List.mem_of_getElem? (i := 197) rfl)) (by decide) (rm_pci0 G0 h I0 N i n hI hN hi hn) all0 all0 (argsL := [.int I0, .int N, .null]) (rest := []) (lenOf (by decide +kernel : parseMethodDescriptor "(IILjava/util/function/BiFunction;)I" = some ⟨[.int, .int, (.object "java/util/function/BiFunction")], (some .int)⟩) rfl) rfl rfl (hb hby dsci_5) (by rw [hml]; rfl) (W := 0) (Nat.le_of_eq rfl) (by decide) (by decide) (by decide) (by decide) (pc' := 8) rfl fun u1 N2 T h3 w K4 P5 => ?_
    obtain ⟨rfl, P6⟩ := P5
    obtain ⟨rfl, rfl⟩ := P6
    show Run p e below _ T (mkF m 8 #[.val (.int I0), .val (.int N)] [.int I0])
    refine s_pop w (hb hby dsci_8) rfl (pc' := 9) rfl ?_
    exact w_return w hEL hs hlk hret (hb hby dsci_9) (by decide) (by decide) ⟨rfl, rfl⟩
  · skip
    refine s_iload_n w (hb hby dsci_0) rfl (pc' := 1) rfl ?_
    refine s_iload_n w (hb hby dsci_1) rfl (pc' := 2) rfl ?_
    refine w_getS w (hw _ (List.mem_of_getElem? (i := 193) rfl)) Via.refl (SF.ext w.old) (hb hby dsci_2) (pc' := 5) rfl fun T w => ?_
    refine w_staticN w hEL (y := (⟨"jdk/internal/util/Preconditions", "checkIndex", "(IILjava/util/function/BiFunction;)I"⟩ : MethodName)) (hw _ (List.mem_of_getElem? (i := 195) rfl)) (hw _ (List.mem_of_getElem? (i := 196) rfl)) (hw _ (List.mem_of_getElem? (i := 194) rfl)) (hw _ (List.mem_of_getElem? (i := 197) rfl)) (by decide) (rm_pci1 G0 h I0 N ra i n hI hN hi hn) all0 all0 (argsL := [.int I0, .int N, .ref ra]) (rest := []) (lenOf (by decide +kernel : parseMethodDescriptor "(IILjava/util/function/BiFunction;)I" = some ⟨[.int, .int, (.object "java/util/function/BiFunction")], (some .int)⟩) rfl) rfl rfl (hb hby dsci_5) (by rw [hml]; rfl) (W := 0) (Nat.le_of_eq rfl) (by decide) (by decide) (by decide) (by decide) (pc' := 8) rfl fun u7 N8 T h9 w K10 P11 => ?_
    obtain ⟨rfl, P12⟩ := P11
    obtain ⟨rfl, rfl⟩ := P12
    show Run p e below _ T (mkF m 8 #[.val (.int I0), .val (.int N)] [.int I0])
    refine s_pop w (hb hby dsci_8) rfl (pc' := 9) rfl ?_
    exact w_return w hEL hs hlk hret (hb hby dsci_9) (by decide) (by decide) ⟨rfl, rfl⟩
theorem dlca_0 : decode jdk_43_method_2_code 0 = .ok (.iload_n 1, 1) := by decide +kernel
theorem dlca_1 : decode jdk_43_method_2_code 1 = .ok (.aload_n 0, 1) := by decide +kernel
theorem dlca_2 : decode jdk_43_method_2_code 2 = .ok (.arraylength, 1) := by decide +kernel
theorem dlca_3 : decode jdk_43_method_2_code 3 = .ok (.invokestatic 9, 3) := by decide +kernel
theorem dlca_6 : decode jdk_43_method_2_code 6 = .ok (.aload_n 0, 1) := by decide +kernel
theorem dlca_7 : decode jdk_43_method_2_code 7 = .ok (.iload_n 1, 1) := by decide +kernel
theorem dlca_8 : decode jdk_43_method_2_code 8 = .ok (.baload, 1) := by decide +kernel
theorem dlca_9 : decode jdk_43_method_2_code 9 = .ok (.sipush 255, 3) := by decide +kernel
theorem dlca_12 : decode jdk_43_method_2_code 12 = .ok (.iand, 1) := by decide +kernel
theorem dlca_13 : decode jdk_43_method_2_code 13 = .ok (.i2c, 1) := by decide +kernel
theorem dlca_14 : decode jdk_43_method_2_code 14 = .ok (.ireturn, 1) := by decide +kernel
theorem ef_lca (m : MethodId) (t : Addr) (I0 : Int32) : entryFrame m #[.ref t, .int I0] 2 = mkF m 0 #[.val (.ref t), .val (.int I0)] [] := by first | (simp [entryFrame, mkF, argsToLocals, Value.category]; done) | rfl
set_option maxRecDepth 65536 in
set_option maxHeartbeats 40000000 in
theorem rm_lca {l : Launch} {Z : State} {a0 : Array Value} {zc : Int32} {fm : Value} (G : Gl Z a0 zc fm) (h : Heap) (t : Addr) (I0 : Int32) (i : Nat) (kt : ClassId) (cs : List Int32) (hI : I0 = Int32.ofNat i) (hi : i < cs.length) (hl : cs.length ≤ 8) (hlat : ∀ c ∈ cs, Lat c) (A : Arv Z h t kt .byte (Int32.ofNat cs.length) (low cs) (.int 0)) :
    Met l Z consts_1 (⟨"java/lang/StringLatin1", "charAt", "([BI)C"⟩ : MethodName) jdk_43_method_2_code 2 (some .char) ({ frames := 2, cells := 0, slots := 0, locals := 27 } : Room) #[.ref t, .int I0] h [] [] (fun v h' => v = some (.int (cs.getD i 0)) ∧ h = h') := by
  have G0 := G
  obtain ⟨hw, hEL, SC, hz, SF, hfm, SA, SH, SL⟩ := G
  have hw1 : ∀ d ∈ StrChars.Road.words, d.before a0 Z = true := fun d q => hw d (sub1 d q)
  have hwA : ∀ d ∈ Bundle.stringAtoms, d.before a0 Z = true := fun d q => hw d (subA d q)
  refine Met.of (plainFor_of_name pn_3) ?_
  intro p e s m below meth c T hnm hret hlk hby hml hs w
  have hZ0 := w.old
  refine Run.cast (ef_lca m t I0) ?_
  refine s_iload_n w (hb hby dlca_0) rfl (pc' := 1) rfl ?_
  refine s_aload_n w (hb hby dlca_1) rfl rfl (pc' := 2) rfl ?_
  refine w_len w A (hb hby dlca_2) (pc' := 3) rfl ?_
  refine w_staticN w hEL (y := (⟨"java/lang/String", "checkIndex", "(II)V"⟩ : MethodName)) (hw _ (List.mem_of_getElem? (i := 190) rfl)) (hw _ (List.mem_of_getElem? (i := 191) rfl)) (hw _ (List.mem_of_getElem? (i := 7) rfl)) (hw _ (List.mem_of_getElem? (i := 192) rfl)) (by decide) (rm_sci G0 h I0 _ i cs.length hI rfl hi (by omega)) all0 all0 (argsL := [.int I0, .int (Int32.ofNat cs.length)]) (rest := []) (lenOf (by decide +kernel : parseMethodDescriptor "(II)V" = some ⟨[.int, .int], none⟩) rfl) rfl rfl (hb hby dlca_3) (by rw [hml]; rfl) (W := 0) (Nat.le_of_eq rfl) (by decide) (by decide) (by decide) (by decide) (pc' := 6) rfl fun u1 N2 T h3 w K4 P5 => ?_
  obtain ⟨rfl, P6⟩ := P5
  obtain ⟨rfl, rfl⟩ := P6
  show Run p e below _ T (mkF m 6 #[.val (.ref t), .val (.int I0)] [])
  refine s_aload_n w (hb hby dlca_6) rfl rfl (pc' := 7) rfl ?_
  refine s_iload_n w (hb hby dlca_7) rfl (pc' := 8) rfl ?_
  refine w_ldB w A (i := i) (by rw [hI]; exact ofNat_lt (by omega)) (by rw [hI]; exact ofNat_nat (by omega)) (by rw [ofNat_nat (by omega)]; exact hi) (low_get hi) (hb hby dlca_8) (pc' := 9) rfl ?_
  refine s_sipush w (hb hby dlca_9) (v := 255) rfl (pc' := 12) rfl ?_
  refine s_iand w (hb hby dlca_12) (pc' := 13) rfl ?_
  refine s_i2c w (hb hby dlca_13) (pc' := 14) rfl ?_
  have lc := hlat _ (getD_memC hi)
  rw [lo8_mask lc.1 lc.2, lc.nar]
  exact w_ireturn w hEL hs hlk hret (narrow_ch (lat_chr lc).1 (lat_chr lc).2) (Or.inr (Or.inr (Or.inr (Or.inl rfl)))) (hb hby dlca_14) (by decide) (by decide) ⟨rfl, rfl⟩
theorem duci_0 : decode jdk_52_method_91_code 0 = .ok (.iload_n 0, 1) := by decide +kernel
theorem duci_1 : decode jdk_52_method_91_code 1 = .ok (.aload_n 1, 1) := by decide +kernel
theorem duci_2 : decode jdk_52_method_91_code 2 = .ok (.invokestatic 48, 3) := by decide +kernel
theorem duci_5 : decode jdk_52_method_91_code 5 = .ok (.invokestatic 414, 3) := by decide +kernel
theorem duci_8 : decode jdk_52_method_91_code 8 = .ok (.return_, 1) := by decide +kernel
theorem ef_uci (m : MethodId) (I0 : Int32) (t : Addr) : entryFrame m #[.int I0, .ref t] 2 = mkF m 0 #[.val (.int I0), .val (.ref t)] [] := by first | (simp [entryFrame, mkF, argsToLocals, Value.category]; done) | rfl
set_option maxRecDepth 65536 in
set_option maxHeartbeats 40000000 in
theorem rm_uci {l : Launch} {Z : State} {a0 : Array Value} {zc : Int32} {fm : Value} (G : Gl Z a0 zc fm) (h : Heap) (I0 : Int32) (t : Addr) (i : Nat) (kt : ClassId) (cs : List Int32) (hI : I0 = Int32.ofNat i) (hi : i < cs.length) (hl : cs.length ≤ 8) (hc : ∀ c ∈ cs, Chr c) (A : Arv Z h t kt .byte (Int32.ofNat (2 * cs.length)) (wideBytes cs) (.int 0)) :
    Met l Z consts_1 (⟨"java/lang/StringUTF16", "checkIndex", "(I[B)V"⟩ : MethodName) jdk_52_method_91_code 2 none ({ frames := 2, cells := 0, slots := 0, locals := 27 } : Room) #[.int I0, .ref t] h [] [] (fun v h' => v = none ∧ h = h') := by
  have G0 := G
  obtain ⟨hw, hEL, SC, hz, SF, hfm, SA, SH, SL⟩ := G
  have hw1 : ∀ d ∈ StrChars.Road.words, d.before a0 Z = true := fun d q => hw d (sub1 d q)
  have hwA : ∀ d ∈ Bundle.stringAtoms, d.before a0 Z = true := fun d q => hw d (subA d q)
  refine Met.of (plainFor_of_name pn_0) ?_
  intro p e s m below meth c T hnm hret hlk hby hml hs w
  have hZ0 := w.old
  refine Run.cast (ef_uci m I0 t) ?_
  refine s_iload_n w (hb hby duci_0) rfl (pc' := 1) rfl ?_
  refine s_aload_n w (hb hby duci_1) rfl rfl (pc' := 2) rfl ?_
  refine w_staticN w hEL (y := (⟨"java/lang/StringUTF16", "length", "([B)I"⟩ : MethodName)) (hw _ (List.mem_of_getElem? (i := 239) rfl)) (hw _ (List.mem_of_getElem? (i := 240) rfl)) (hw _ (List.mem_of_getElem? (i := 22) rfl)) (hw _ (List.mem_of_getElem? (i := 241) rfl)) (by decide) (rm_ul G0 h t cs.length kt _ A (by omega)) all0 all0 (argsL := [.ref t]) (rest := [.int I0]) (lenOf (by decide +kernel : parseMethodDescriptor "([B)I" = some ⟨[(.array .byte)], (some .int)⟩) rfl) rfl rfl (hb hby duci_2) (by rw [hml]; rfl) (W := 1) (Nat.le_of_eq rfl) (by decide) (by decide) (by decide) (by decide) (pc' := 5) rfl fun u1 N2 T h3 w K4 P5 => ?_
  obtain ⟨rfl, P6⟩ := P5
  obtain ⟨rfl, rfl⟩ := P6
  show Run p e below _ T (mkF m 5 #[.val (.int I0), .val (.ref t)] [.int (Int32.ofNat cs.length), .int I0])
  refine w_staticN w hEL (y := (⟨"java/lang/String", "checkIndex", "(II)V"⟩ : MethodName)) (hw _ (List.mem_of_getElem? (i := 257) rfl)) (hw _ (List.mem_of_getElem? (i := 191) rfl)) (hw _ (List.mem_of_getElem? (i := 7) rfl)) (hw _ (List.mem_of_getElem? (i := 192) rfl)) (by decide) (rm_sci G0 h I0 _ i cs.length hI rfl hi (by omega)) all0 all0 (argsL := [.int I0, .int (Int32.ofNat cs.length)]) (rest := []) (lenOf (by decide +kernel : parseMethodDescriptor "(II)V" = some ⟨[.int, .int], none⟩) rfl) rfl rfl (hb hby duci_5) (by rw [hml]; rfl) (W := 0) (Nat.le_of_eq rfl) (by decide) (by decide) (by decide) (by decide) (pc' := 8) rfl fun u7 N8 T h9 w K10 P11 => ?_
  obtain ⟨rfl, P12⟩ := P11
  obtain ⟨rfl, rfl⟩ := P12
  show Run p e below _ T (mkF m 8 #[.val (.int I0), .val (.ref t)] [])
  exact w_return w hEL hs hlk hret (hb hby duci_8) (by decide) (by decide) ⟨rfl, rfl⟩
theorem duca_0 : decode jdk_52_method_83_code 0 = .ok (.iload_n 1, 1) := by decide +kernel
theorem duca_1 : decode jdk_52_method_83_code 1 = .ok (.aload_n 0, 1) := by decide +kernel
theorem duca_2 : decode jdk_52_method_83_code 2 = .ok (.invokestatic 67, 3) := by decide +kernel
theorem duca_5 : decode jdk_52_method_83_code 5 = .ok (.aload_n 0, 1) := by decide +kernel
theorem duca_6 : decode jdk_52_method_83_code 6 = .ok (.iload_n 1, 1) := by decide +kernel
theorem duca_7 : decode jdk_52_method_83_code 7 = .ok (.invokestatic 71, 3) := by decide +kernel
theorem duca_10 : decode jdk_52_method_83_code 10 = .ok (.ireturn, 1) := by decide +kernel
theorem ef_uca (m : MethodId) (t : Addr) (I0 : Int32) : entryFrame m #[.ref t, .int I0] 2 = mkF m 0 #[.val (.ref t), .val (.int I0)] [] := by first | (simp [entryFrame, mkF, argsToLocals, Value.category]; done) | rfl
set_option maxRecDepth 65536 in
set_option maxHeartbeats 40000000 in
theorem rm_uca {l : Launch} {Z : State} {a0 : Array Value} {zc : Int32} {fm : Value} (G : Gl Z a0 zc fm) (h : Heap) (t : Addr) (I0 : Int32) (i : Nat) (kt : ClassId) (cs : List Int32) (hI : I0 = Int32.ofNat i) (hi : i < cs.length) (hl : cs.length ≤ 8) (hc : ∀ c ∈ cs, Chr c) (A : Arv Z h t kt .byte (Int32.ofNat (2 * cs.length)) (wideBytes cs) (.int 0)) :
    Met l Z consts_1 (⟨"java/lang/StringUTF16", "charAt", "([BI)C"⟩ : MethodName) jdk_52_method_83_code 2 (some .char) ({ frames := 3, cells := 0, slots := 0, locals := 40 } : Room) #[.ref t, .int I0] h [] [] (fun v h' => v = some (.int (cs.getD i 0)) ∧ h = h') := by
  have G0 := G
  obtain ⟨hw, hEL, SC, hz, SF, hfm, SA, SH, SL⟩ := G
  have hw1 : ∀ d ∈ StrChars.Road.words, d.before a0 Z = true := fun d q => hw d (sub1 d q)
  have hwA : ∀ d ∈ Bundle.stringAtoms, d.before a0 Z = true := fun d q => hw d (subA d q)
  refine Met.of (plainFor_of_name pn_0) ?_
  intro p e s m below meth c T hnm hret hlk hby hml hs w
  have hZ0 := w.old
  refine Run.cast (ef_uca m t I0) ?_
  refine s_iload_n w (hb hby duca_0) rfl (pc' := 1) rfl ?_
  refine s_aload_n w (hb hby duca_1) rfl rfl (pc' := 2) rfl ?_
  refine w_staticN w hEL (y := (⟨"java/lang/StringUTF16", "checkIndex", "(I[B)V"⟩ : MethodName)) (hw _ (List.mem_of_getElem? (i := 254) rfl)) (hw _ (List.mem_of_getElem? (i := 255) rfl)) (hw _ (List.mem_of_getElem? (i := 22) rfl)) (hw _ (List.mem_of_getElem? (i := 256) rfl)) (by decide) (rm_uci G0 h I0 t i kt cs hI hi hl hc A) all0 all0 (argsL := [.int I0, .ref t]) (rest := []) (lenOf (by decide +kernel : parseMethodDescriptor "(I[B)V" = some ⟨[.int, (.array .byte)], none⟩) rfl) rfl rfl (hb hby duca_2) (by rw [hml]; rfl) (W := 0) (Nat.le_of_eq rfl) (by decide) (by decide) (by decide) (by decide) (pc' := 5) rfl fun u1 N2 T h3 w K4 P5 => ?_
  obtain ⟨rfl, P6⟩ := P5
  obtain ⟨rfl, rfl⟩ := P6
  show Run p e below _ T (mkF m 5 #[.val (.ref t), .val (.int I0)] [])
  refine s_aload_n w (hb hby duca_5) rfl rfl (pc' := 6) rfl ?_
  refine s_iload_n w (hb hby duca_6) rfl (pc' := 7) rfl ?_
  refine w_staticN w hEL (y := (⟨"java/lang/StringUTF16", "getChar", "([BI)C"⟩ : MethodName)) (hw _ (List.mem_of_getElem? (i := 258) rfl)) (hw _ (List.mem_of_getElem? (i := 259) rfl)) (hw _ (List.mem_of_getElem? (i := 22) rfl)) (hw _ (List.mem_of_getElem? (i := 260) rfl)) (by decide) (rm_gch G0 h t I0 i hI kt cs _ rfl A hi (by omega) hc) all0 all0 (argsL := [.ref t, .int I0]) (rest := []) (lenOf (by decide +kernel : parseMethodDescriptor "([BI)C" = some ⟨[(.array .byte), .int], (some .char)⟩) rfl) rfl rfl (hb hby duca_7) (by rw [hml]; rfl) (W := 0) (Nat.le_of_eq rfl) (by decide) (by decide) (by decide) (by decide) (pc' := 10) rfl fun u7 N8 T h9 w K10 P11 => ?_
  obtain ⟨rfl, P12⟩ := P11
  obtain ⟨rfl, rfl⟩ := P12
  show Run p e below _ T (mkF m 10 #[.val (.ref t), .val (.int I0)] [.int (cs.getD i 0)])
  exact w_ireturn w hEL hs hlk hret (narrow_ch (hc _ (getD_memC hi)).1 (hc _ (getD_memC hi)).2) (Or.inr (Or.inr (Or.inr (Or.inl rfl)))) (hb hby duca_10) (by decide) (by decide) ⟨rfl, rfl⟩
theorem dcha_0 : decode jdk_42_method_56_code 0 = .ok (.aload_n 0, 1) := by decide +kernel
theorem dcha_1 : decode jdk_42_method_56_code 1 = .ok (.invokevirtual 492, 3) := by decide +kernel
theorem dcha_4 : decode jdk_42_method_56_code 4 = .ok (.ifCond .eq 12, 3) := by decide +kernel
theorem dcha_7 : decode jdk_42_method_56_code 7 = .ok (.aload_n 0, 1) := by decide +kernel
theorem dcha_8 : decode jdk_42_method_56_code 8 = .ok (.getfield 9, 3) := by decide +kernel
theorem dcha_11 : decode jdk_42_method_56_code 11 = .ok (.iload_n 1, 1) := by decide +kernel
theorem dcha_12 : decode jdk_42_method_56_code 12 = .ok (.invokestatic 495, 3) := by decide +kernel
theorem dcha_15 : decode jdk_42_method_56_code 15 = .ok (.ireturn, 1) := by decide +kernel
theorem dcha_16 : decode jdk_42_method_56_code 16 = .ok (.aload_n 0, 1) := by decide +kernel
theorem dcha_17 : decode jdk_42_method_56_code 17 = .ok (.getfield 9, 3) := by decide +kernel
theorem dcha_20 : decode jdk_42_method_56_code 20 = .ok (.iload_n 1, 1) := by decide +kernel
theorem dcha_21 : decode jdk_42_method_56_code 21 = .ok (.invokestatic 498, 3) := by decide +kernel
theorem dcha_24 : decode jdk_42_method_56_code 24 = .ok (.ireturn, 1) := by decide +kernel
theorem ef_cha (m : MethodId) (x : Addr) (I0 : Int32) : entryFrame m #[.ref x, .int I0] 2 = mkF m 0 #[.val (.ref x), .val (.int I0)] [] := by first | (simp [entryFrame, mkF, argsToLocals, Value.category]; done) | rfl
set_option maxRecDepth 65536 in
set_option maxHeartbeats 40000000 in
theorem rm_cha {l : Launch} {Z : State} {a0 : Array Value} {zc : Int32} {fm : Value} (G : Gl Z a0 zc fm) (h : Heap) (x : Addr) (I0 : Int32) (i : Nat) (cs : List Int32) (hI : I0 = Int32.ofNat i) (hi : i < cs.length) (hl : cs.length ≤ 8) (Sx : Str Z h x cs) :
    Met l Z consts_1 (⟨"java/lang/String", "charAt", "(I)C"⟩ : MethodName) jdk_42_method_56_code 2 (some .char) ({ frames := 4, cells := 0, slots := 0, locals := 53 } : Room) #[.ref x, .int I0] h [] [] (fun v h' => v = some (.int (cs.getD i 0)) ∧ h = h') := by
  have G0 := G
  obtain ⟨hw, hEL, SC, hz, SF, hfm, SA, SH, SL⟩ := G
  have hw1 : ∀ d ∈ StrChars.Road.words, d.before a0 Z = true := fun d q => hw d (sub1 d q)
  have hwA : ∀ d ∈ Bundle.stringAtoms, d.before a0 Z = true := fun d q => hw d (subA d q)
  refine Met.of (plainFor_of_name pn_1) ?_
  intro p e s m below meth c T hnm hret hlk hby hml hs w
  have hZ0 := w.old
  refine Run.cast (ef_cha m x I0) ?_
  have hcc : Chr (cs.getD i 0) := Sx.2.elim fun _ q => q.elim fun _ q => q.elim fun _ q => q.elim fun _ q => q.elim fun _ q => q.2.2.2.2.1 _ (getD_memC hi)
  rcases Str.two Sx hl with ⟨tx, kx, X0⟩ | ⟨tx, kx, X0⟩
  · skip
    have X1 := X0
    have Sx := X0.str
    obtain ⟨Ex, Vx, Cx, Ax, hds, hdl⟩ := X0
    refine s_aload_n w (hb hby dcha_0) rfl rfl (pc' := 1) rfl ?_
    refine w_virtualN w hEL (y := (⟨"java/lang/String", "isLatin1", "()Z"⟩ : MethodName)) (y' := (⟨"java/lang/String", "isLatin1", "()Z"⟩ : MethodName)) (C := "java/lang/String") (a := x) (hw _ (List.mem_of_getElem? (i := 181) rfl)) (hw _ (List.mem_of_getElem? (i := 182) rfl)) (hw _ (List.mem_of_getElem? (i := 184) rfl)) (hw _ (List.mem_of_getElem? (i := 184) rfl)) (hw _ (List.mem_of_getElem? (i := 183) rfl)) (hw _ (List.mem_of_getElem? (i := 7) rfl)) (hw _ (List.mem_of_getElem? (i := 185) rfl)) (by decide) Ex (rm_sil0 G0 h x Cx) all0 all0 (argsL := []) (rest := []) (lenOf (by decide +kernel : parseMethodDescriptor "()Z" = some ⟨[], (some .boolean)⟩) rfl) rfl rfl (hb hby dcha_1) (by rw [hml]; rfl) (W := 0) (Nat.le_of_eq rfl) (by decide) (by decide) (by decide) (by decide) (pc' := 4) rfl fun u1 N2 T h3 w K4 P5 => ?_
    obtain ⟨rfl, P6⟩ := P5
    obtain ⟨rfl, rfl⟩ := P6
    show Run p e below _ T (mkF m 4 #[.val (.ref x), .val (.int I0)] [.int 1])
    refine s_if_eq w (hb hby dcha_4) (by decide) (pc1 := 7) rfl (pc2 := 16) rfl (fun _ => ?_) (fun q => absurd q (by decide))
    refine s_aload_n w (hb hby dcha_7) rfl rfl (pc' := 8) rfl ?_
    refine w_getF w (hw _ (List.mem_of_getElem? (i := 33) rfl)) Via.refl Vx (hb hby dcha_8) (pc' := 11) rfl fun T w => ?_
    refine s_iload_n w (hb hby dcha_11) rfl (pc' := 12) rfl ?_
    refine w_staticN w hEL (y := (⟨"java/lang/StringLatin1", "charAt", "([BI)C"⟩ : MethodName)) (hw _ (List.mem_of_getElem? (i := 186) rfl)) (hw _ (List.mem_of_getElem? (i := 187) rfl)) (hw _ (List.mem_of_getElem? (i := 188) rfl)) (hw _ (List.mem_of_getElem? (i := 189) rfl)) (by decide) (rm_lca G0 h tx I0 i kx cs hI hi hl hds Ax) all0 all0 (argsL := [.ref tx, .int I0]) (rest := []) (lenOf (by decide +kernel : parseMethodDescriptor "([BI)C" = some ⟨[(.array .byte), .int], (some .char)⟩) rfl) rfl rfl (hb hby dcha_12) (by rw [hml]; rfl) (W := 0) (Nat.le_of_eq rfl) (by decide) (by decide) (by decide) (by decide) (pc' := 15) rfl fun u8 N9 T h10 w K11 P12 => ?_
    obtain ⟨rfl, P13⟩ := P12
    obtain ⟨rfl, rfl⟩ := P13
    show Run p e below _ T (mkF m 15 #[.val (.ref x), .val (.int I0)] [.int (cs.getD i 0)])
    exact w_ireturn w hEL hs hlk hret (narrow_ch hcc.1 hcc.2) (Or.inr (Or.inr (Or.inr (Or.inl rfl)))) (hb hby dcha_15) (by decide) (by decide) ⟨rfl, rfl⟩
  · skip
    have X1 := X0
    have Sx := X0.str
    obtain ⟨Ex, Vx, Cx, Ax, hds, hdl⟩ := X0
    refine s_aload_n w (hb hby dcha_0) rfl rfl (pc' := 1) rfl ?_
    refine w_virtualN w hEL (y := (⟨"java/lang/String", "isLatin1", "()Z"⟩ : MethodName)) (y' := (⟨"java/lang/String", "isLatin1", "()Z"⟩ : MethodName)) (C := "java/lang/String") (a := x) (hw _ (List.mem_of_getElem? (i := 181) rfl)) (hw _ (List.mem_of_getElem? (i := 182) rfl)) (hw _ (List.mem_of_getElem? (i := 184) rfl)) (hw _ (List.mem_of_getElem? (i := 184) rfl)) (hw _ (List.mem_of_getElem? (i := 183) rfl)) (hw _ (List.mem_of_getElem? (i := 7) rfl)) (hw _ (List.mem_of_getElem? (i := 185) rfl)) (by decide) Ex (rm_sil1 G0 h x Cx) all0 all0 (argsL := []) (rest := []) (lenOf (by decide +kernel : parseMethodDescriptor "()Z" = some ⟨[], (some .boolean)⟩) rfl) rfl rfl (hb hby dcha_1) (by rw [hml]; rfl) (W := 0) (Nat.le_of_eq rfl) (by decide) (by decide) (by decide) (by decide) (pc' := 4) rfl fun u14 N15 T h16 w K17 P18 => ?_
    obtain ⟨rfl, P19⟩ := P18
    obtain ⟨rfl, rfl⟩ := P19
    show Run p e below _ T (mkF m 4 #[.val (.ref x), .val (.int I0)] [.int 0])
    refine s_if_eq w (hb hby dcha_4) (by decide) (pc1 := 7) rfl (pc2 := 16) rfl (fun q => absurd q (by decide)) (fun _ => ?_)
    refine s_aload_n w (hb hby dcha_16) rfl rfl (pc' := 17) rfl ?_
    refine w_getF w (hw _ (List.mem_of_getElem? (i := 33) rfl)) Via.refl Vx (hb hby dcha_17) (pc' := 20) rfl fun T w => ?_
    refine s_iload_n w (hb hby dcha_20) rfl (pc' := 21) rfl ?_
    refine w_staticN w hEL (y := (⟨"java/lang/StringUTF16", "charAt", "([BI)C"⟩ : MethodName)) (hw _ (List.mem_of_getElem? (i := 251) rfl)) (hw _ (List.mem_of_getElem? (i := 252) rfl)) (hw _ (List.mem_of_getElem? (i := 22) rfl)) (hw _ (List.mem_of_getElem? (i := 253) rfl)) (by decide) (rm_uca G0 h tx I0 i kx cs hI hi hl hds.1 Ax) all0 all0 (argsL := [.ref tx, .int I0]) (rest := []) (lenOf (by decide +kernel : parseMethodDescriptor "([BI)C" = some ⟨[(.array .byte), .int], (some .char)⟩) rfl) rfl rfl (hb hby dcha_21) (by rw [hml]; rfl) (W := 0) (Nat.le_of_eq rfl) (by decide) (by decide) (by decide) (by decide) (pc' := 24) rfl fun u21 N22 T h23 w K24 P25 => ?_
    obtain ⟨rfl, P26⟩ := P25
    obtain ⟨rfl, rfl⟩ := P26
    show Run p e below _ T (mkF m 24 #[.val (.ref x), .val (.int I0)] [.int (cs.getD i 0)])
    exact w_ireturn w hEL hs hlk hret (narrow_ch hcc.1 hcc.2) (Or.inr (Or.inr (Or.inr (Or.inl rfl)))) (hb hby dcha_24) (by decide) (by decide) ⟨rfl, rfl⟩
theorem dcanE_0 : decode jdk_43_method_3_code 0 = .ok (.iload_n 0, 1) := by decide +kernel
theorem dcanE_1 : decode jdk_43_method_3_code 1 = .ok (.sipush 255, 3) := by decide +kernel
theorem dcanE_4 : decode jdk_43_method_3_code 4 = .ok (.if_icmp .gt 7, 3) := by decide +kernel
theorem dcanE_7 : decode jdk_43_method_3_code 7 = .ok (.iconst 1, 1) := by decide +kernel
theorem dcanE_8 : decode jdk_43_method_3_code 8 = .ok (.goto 4, 3) := by decide +kernel
theorem dcanE_11 : decode jdk_43_method_3_code 11 = .ok (.iconst 0, 1) := by decide +kernel
theorem dcanE_12 : decode jdk_43_method_3_code 12 = .ok (.ireturn, 1) := by decide +kernel
theorem ef_canE (m : MethodId) (c0 : Int32) : entryFrame m #[.int c0] 1 = mkF m 0 #[.val (.int c0)] [] := by first | (simp [entryFrame, mkF, argsToLocals, Value.category]; done) | rfl
set_option maxRecDepth 65536 in
set_option maxHeartbeats 40000000 in
theorem rm_canE {l : Launch} {Z : State} {a0 : Array Value} {zc : Int32} {fm : Value} (G : Gl Z a0 zc fm) (h : Heap) (c0 : Int32)  :
    Met l Z consts_1 (⟨"java/lang/StringLatin1", "canEncode", "(C)Z"⟩ : MethodName) jdk_43_method_3_code 1 (some .boolean) ({ frames := 0, cells := 0, slots := 0, locals := 0 } : Room) #[.int c0] h [] [] (fun v h' => v = some (.int (if (255 : Int32) < c0 then 0 else 1)) ∧ h = h') := by
  have G0 := G
  obtain ⟨hw, hEL, SC, hz, SF, hfm, SA, SH, SL⟩ := G
  have hw1 : ∀ d ∈ StrChars.Road.words, d.before a0 Z = true := fun d q => hw d (sub1 d q)
  have hwA : ∀ d ∈ Bundle.stringAtoms, d.before a0 Z = true := fun d q => hw d (subA d q)
  refine Met.of (plainFor_of_name pn_3) ?_
  intro p e s m below meth c T hnm hret hlk hby hml hs w
  have hZ0 := w.old
  refine Run.cast (ef_canE m c0) ?_
  refine s_iload_n w (hb hby dcanE_0) rfl (pc' := 1) rfl ?_
  refine s_sipush w (hb hby dcanE_1) (v := 255) rfl (pc' := 4) rfl ?_
  refine s_icmp_gt w (hb hby dcanE_4) (by decide) (pc1 := 7) rfl (pc2 := 11) rfl (fun ct1 => ?_) (fun ct1 => ?_)
  · -- ¬ (255 < c0)
    refine s_iconst w (hb hby dcanE_7) (v := 1) rfl (pc' := 8) rfl ?_
    refine s_goto w (hb hby dcanE_8) (by decide) (pc' := 12) rfl ?_
    refine w_ireturn w hEL hs hlk hret rfl (Or.inr (Or.inl rfl)) (hb hby dcanE_12) (by decide) (by decide) ⟨?_, rfl⟩
    rw [if_neg (by assumption)]
  · -- 255 < c0
    refine s_iconst w (hb hby dcanE_11) (v := 0) rfl (pc' := 12) rfl ?_
    refine w_ireturn w hEL hs hlk hret rfl (Or.inr (Or.inl rfl)) (hb hby dcanE_12) (by decide) (by decide) ⟨?_, rfl⟩
    rw [if_pos (by assumption)]
theorem dtoB_0 : decode jdk_43_method_46_code 0 = .ok (.iconst 1, 1) := by decide +kernel
theorem dtoB_1 : decode jdk_43_method_46_code 1 = .ok (.newarray .byte, 2) := by decide +kernel
theorem dtoB_3 : decode jdk_43_method_46_code 3 = .ok (.dup, 1) := by decide +kernel
theorem dtoB_4 : decode jdk_43_method_46_code 4 = .ok (.iconst 0, 1) := by decide +kernel
theorem dtoB_5 : decode jdk_43_method_46_code 5 = .ok (.iload_n 0, 1) := by decide +kernel
theorem dtoB_6 : decode jdk_43_method_46_code 6 = .ok (.i2b, 1) := by decide +kernel
theorem dtoB_7 : decode jdk_43_method_46_code 7 = .ok (.bastore, 1) := by decide +kernel
theorem dtoB_8 : decode jdk_43_method_46_code 8 = .ok (.areturn, 1) := by decide +kernel
theorem ef_toB (m : MethodId) (c0 : Int32) : entryFrame m #[.int c0] 1 = mkF m 0 #[.val (.int c0)] [] := by first | (simp [entryFrame, mkF, argsToLocals, Value.category]; done) | rfl
set_option maxRecDepth 65536 in
set_option maxHeartbeats 40000000 in
theorem rm_toB {l : Launch} {Z : State} {a0 : Array Value} {zc : Int32} {fm : Value} (G : Gl Z a0 zc fm) (h : Heap) (c0 : Int32)  :
    Met l Z consts_1 (⟨"java/lang/StringLatin1", "toBytes", "(C)[B"⟩ : MethodName) jdk_43_method_46_code 1 (some (.array .byte)) ({ frames := 0, cells := 1, slots := 1, locals := 0 } : Room) #[.int c0] h [] [] (fun v h' => ∃ t kb, v = some (.ref t) ∧ h.size ≤ t ∧ Arv Z h' t kb .byte 1 [.int c0.toInt8.toInt32] (.int 0)) := by
  have G0 := G
  obtain ⟨hw, hEL, SC, hz, SF, hfm, SA, SH, SL⟩ := G
  have hw1 : ∀ d ∈ StrChars.Road.words, d.before a0 Z = true := fun d q => hw d (sub1 d q)
  have hwA : ∀ d ∈ Bundle.stringAtoms, d.before a0 Z = true := fun d q => hw d (subA d q)
  refine Met.of (plainFor_of_name pn_3) ?_
  intro p e s m below meth c T hnm hret hlk hby hml hs w
  have hZ0 := w.old
  refine Run.cast (ef_toB m c0) ?_
  refine s_iconst w (hb hby dtoB_0) (v := 1) rfl (pc' := 1) rfl ?_
  refine w_newP w (hw _ (List.mem_of_getElem? (i := 24) rfl)) rfl rfl (hb hby dtoB_1) (by decide) (n := 1) (by decide) (by decide) (pc' := 3) rfl (by decide) (by decide) fun T h1 x2 k3 w E4 q5 r6 V7 => ?_
  refine s_dup w (hb hby dtoB_3) rfl (pc' := 4) rfl ?_
  refine s_iconst w (hb hby dtoB_4) (v := 0) rfl (pc' := 5) rfl ?_
  refine s_iload_n w (hb hby dtoB_5) rfl (pc' := 6) rfl ?_
  refine s_i2b w (hb hby dtoB_6) (pc' := 7) rfl ?_
  refine w_stB w V7 (i := 0) (by decide) rfl (by decide) (Nat.le_of_ble_eq_true rfl) (nar_byte _) (hb hby dtoB_7) (Or.inr r6) (List.mem_of_getElem? (i := 0) rfl) (pc' := 8) rfl fun T h8 w W9 V10 => ?_
  have E11 := Ext.wr' E4 W9 q5
  exact w_areturn w hEL hs hlk hret rfl rfl (hb hby dtoB_8) (by decide) (by decide) ⟨x2, _, rfl, q5, V10⟩
theorem diBB_0 : decode jdk_42_method_151_code 0 = .ok (.aload_n 0, 1) := by decide +kernel
theorem diBB_1 : decode jdk_42_method_151_code 1 = .ok (.invokespecial 1, 3) := by decide +kernel
theorem diBB_4 : decode jdk_42_method_151_code 4 = .ok (.aload_n 0, 1) := by decide +kernel
theorem diBB_5 : decode jdk_42_method_151_code 5 = .ok (.aload_n 1, 1) := by decide +kernel
theorem diBB_6 : decode jdk_42_method_151_code 6 = .ok (.putfield 9, 3) := by decide +kernel
theorem diBB_9 : decode jdk_42_method_151_code 9 = .ok (.aload_n 0, 1) := by decide +kernel
theorem diBB_10 : decode jdk_42_method_151_code 10 = .ok (.iload_n 2, 1) := by decide +kernel
theorem diBB_11 : decode jdk_42_method_151_code 11 = .ok (.putfield 15, 3) := by decide +kernel
theorem diBB_14 : decode jdk_42_method_151_code 14 = .ok (.return_, 1) := by decide +kernel
theorem ef_iBB (m : MethodId) (a : Addr) (t : Addr) (cd : Int32) : entryFrame m #[.ref a, .ref t, .int cd] 3 = mkF m 0 #[.val (.ref a), .val (.ref t), .val (.int cd)] [] := by first | (simp [entryFrame, mkF, argsToLocals, Value.category]; done) | rfl
set_option maxRecDepth 65536 in
set_option maxHeartbeats 40000000 in
theorem rm_iBB {l : Launch} {Z : State} {a0 : Array Value} {zc : Int32} {fm : Value} (G : Gl Z a0 zc fm) (h : Heap) (a : Addr) (t : Addr) (cd : Int32) (v0 v1 : Value) (hcd : narrow .byte (.int cd) = .int cd ∧ fits .byte (.int cd) = true) (E0 : Exa Z h a ST) (F_1 : Fld Z h a ST "value" "[B" v0) (F_2 : Fld Z h a ST "coder" "B" v1) :
    Met l Z consts_1 (⟨"java/lang/String", "<init>", "([BB)V"⟩ : MethodName) jdk_42_method_151_code 3 none ({ frames := 1, cells := 0, slots := 0, locals := 12 } : Room) #[.ref a, .ref t, .int cd] h [a] [a] (fun v h' => v = none ∧ Exa Z h' a ST ∧ Fld Z h' a ST "value" "[B" (.ref t) ∧ Fld Z h' a ST "coder" "B" (.int cd)) := by
  have G0 := G
  obtain ⟨hw, hEL, SC, hz, SF, hfm, SA, SH, SL⟩ := G
  have hw1 : ∀ d ∈ StrChars.Road.words, d.before a0 Z = true := fun d q => hw d (sub1 d q)
  have hwA : ∀ d ∈ Bundle.stringAtoms, d.before a0 Z = true := fun d q => hw d (subA d q)
  refine Met.of (plainFor_of_name pn_1) ?_
  intro p e s m below meth c T hnm hret hlk hby hml hs w
  have hZ0 := w.old
  refine Run.cast (ef_iBB m a t cd) ?_
  refine s_aload_n w (hb hby diBB_0) rfl rfl (pc' := 1) rfl ?_
  refine w_objInit w (hw _ (List.mem_of_getElem? (i := 16) rfl)) (hw _ (List.mem_of_getElem? (i := 17) rfl)) (hw _ (List.mem_of_getElem? (i := 18) rfl)) (hb hby diBB_1) (by rw [hml]; rfl) (by decide) (W := 0) (Nat.le_of_eq rfl) (by decide) (pc' := 4) rfl fun T w => ?_
  refine s_aload_n w (hb hby diBB_4) rfl rfl (pc' := 5) rfl ?_
  refine s_aload_n w (hb hby diBB_5) rfl rfl (pc' := 6) rfl ?_
  refine w_putF w (hw _ (List.mem_of_getElem? (i := 33) rfl)) Via.refl F_1 E0 (Or.inr ⟨(hw _ (List.mem_of_getElem? (i := 34) rfl)), rfl, hnm⟩) (hw _ (List.mem_of_getElem? (i := 6) rfl)) (ty := (.array .byte)) (by decide) rfl rfl (hb hby diBB_6) (Or.inl (List.mem_singleton.mpr rfl)) (Or.inr (List.mem_singleton.mpr rfl)) (pc' := 9) rfl fun T h1 w W1 F1 X1 => ?_
  have sn : Jvm.RoadKit.slotOf Z ST "coder" "B" ≠ Jvm.RoadKit.slotOf Z ST "value" "[B" := slot_ne (Or.inr (hw _ (List.mem_of_getElem? (i := 32) rfl))) (Or.inr (hw _ (List.mem_of_getElem? (i := 34) rfl))) (by decide) (t := .byte) (t' := .array .byte) (by decide) (by decide)
  refine s_aload_n w (hb hby diBB_9) rfl rfl (pc' := 10) rfl ?_
  refine s_iload_n w (hb hby diBB_10) rfl (pc' := 11) rfl ?_
  refine w_putF w (hw _ (List.mem_of_getElem? (i := 31) rfl)) Via.refl (F_2.other W1 (Or.inr sn)) X1 (Or.inr ⟨(hw _ (List.mem_of_getElem? (i := 32) rfl)), rfl, hnm⟩) (hw _ (List.mem_of_getElem? (i := 6) rfl)) (ty := .byte) (by decide) hcd.1 hcd.2 (hb hby diBB_11) (Or.inl (List.mem_singleton.mpr rfl)) (Or.inr (List.mem_singleton.mpr rfl)) (pc' := 14) rfl fun T h2 w W2 F2 X2 => ?_
  exact w_return w hEL hs hlk hret (hb hby diBB_14) (by decide) (by decide) ⟨rfl, X2, F1.other W2 (Or.inr sn.symm), F2⟩
theorem dutb_0 : decode jdk_52_method_24_code 0 = .ok (.iconst 2, 1) := by decide +kernel
theorem dutb_1 : decode jdk_52_method_24_code 1 = .ok (.newarray .byte, 2) := by decide +kernel
theorem dutb_3 : decode jdk_52_method_24_code 3 = .ok (.astore_n 1, 1) := by decide +kernel
theorem dutb_4 : decode jdk_52_method_24_code 4 = .ok (.aload_n 1, 1) := by decide +kernel
theorem dutb_5 : decode jdk_52_method_24_code 5 = .ok (.iconst 0, 1) := by decide +kernel
theorem dutb_6 : decode jdk_52_method_24_code 6 = .ok (.iload_n 0, 1) := by decide +kernel
theorem dutb_7 : decode jdk_52_method_24_code 7 = .ok (.invokestatic 111, 3) := by decide +kernel
theorem dutb_10 : decode jdk_52_method_24_code 10 = .ok (.aload_n 1, 1) := by decide +kernel
theorem dutb_11 : decode jdk_52_method_24_code 11 = .ok (.areturn, 1) := by decide +kernel
theorem ef_utb (m : MethodId) (c0 : Int32) : entryFrame m #[.int c0] 2 = mkF m 0 #[.val (.int c0), .unset] [] := by first | (simp [entryFrame, mkF, argsToLocals, Value.category]; done) | rfl
set_option maxRecDepth 65536 in
set_option maxHeartbeats 40000000 in
theorem rm_utb {l : Launch} {Z : State} {a0 : Array Value} {zc : Int32} {fm : Value} (G : Gl Z a0 zc fm) (h : Heap) (c0 : Int32)  :
    Met l Z consts_1 (⟨"java/lang/StringUTF16", "toBytes", "(C)[B"⟩ : MethodName) jdk_52_method_24_code 2 (some (.array .byte)) ({ frames := 1, cells := 1, slots := 2, locals := 14 } : Room) #[.int c0] h [] [] (fun v h' => ∃ t kb, v = some (.ref t) ∧ h.size ≤ t ∧ Arv Z h' t kb .byte 2 (wideBytes [c0]) (.int 0)) := by
  have G0 := G
  obtain ⟨hw, hEL, SC, hz, SF, hfm, SA, SH, SL⟩ := G
  have hw1 : ∀ d ∈ StrChars.Road.words, d.before a0 Z = true := fun d q => hw d (sub1 d q)
  have hwA : ∀ d ∈ Bundle.stringAtoms, d.before a0 Z = true := fun d q => hw d (subA d q)
  refine Met.of (plainFor_of_name pn_0) ?_
  intro p e s m below meth c T hnm hret hlk hby hml hs w
  have hZ0 := w.old
  refine Run.cast (ef_utb m c0) ?_
  refine s_iconst w (hb hby dutb_0) (v := 2) rfl (pc' := 1) rfl ?_
  refine w_newP w (hw _ (List.mem_of_getElem? (i := 24) rfl)) rfl rfl (hb hby dutb_1) (by decide) (n := 2) (by decide) (by decide) (pc' := 3) rfl (by decide) (by decide) fun T h1 x2 k3 w E4 q5 r6 V7 => ?_
  refine s_astore_n w #[.val (.int c0), .val (.ref x2)] (hb hby dutb_3) rfl rfl (pc' := 4) rfl ?_
  refine s_aload_n w (hb hby dutb_4) rfl rfl (pc' := 5) rfl ?_
  refine s_iconst w (hb hby dutb_5) (v := 0) rfl (pc' := 6) rfl ?_
  refine s_iload_n w (hb hby dutb_6) rfl (pc' := 7) rfl ?_
  refine w_staticN w hEL (y := (⟨"java/lang/StringUTF16", "putChar", "([BII)V"⟩ : MethodName)) (hw _ (List.mem_of_getElem? (i := 208) rfl)) (hw _ (List.mem_of_getElem? (i := 209) rfl)) (hw _ (List.mem_of_getElem? (i := 22) rfl)) (hw _ (List.mem_of_getElem? (i := 210) rfl)) (by decide) (rm_pch G0 h1 x2 0 c0 0 1 rfl k3 _ 2 rfl rfl V7 (by decide) (by decide)) (allS (List.mem_of_getElem? (i := 0) rfl) all0) (allS (Or.inr r6) all0) (argsL := [.ref x2, .int 0, .int c0]) (rest := []) (lenOf (by decide +kernel : parseMethodDescriptor "([BII)V" = some ⟨[(.array .byte), .int, .int], none⟩) rfl) rfl rfl (hb hby dutb_7) (by rw [hml]; rfl) (W := 0) (Nat.le_of_eq rfl) (by decide) (by decide) (by decide) (by decide) (pc' := 10) rfl fun u8 N9 T h10 w K11 P12 => ?_
  obtain ⟨rfl, P13⟩ := P12
  obtain ⟨rfl, D9⟩ := P13
  show Run p e below _ T (mkF m 10 #[.val (.int c0), .val (.ref x2)] [])
  refine s_aload_n w (hb hby dutb_10) rfl rfl (pc' := 11) rfl ?_
  exact w_areturn w hEL hs hlk hret rfl rfl (hb hby dutb_11) (by decide) (by decide) ⟨x2, _, rfl, q5, D9⟩
theorem dvof_0 : decode jdk_42_method_139_code 0 = .ok (.getstatic 38, 3) := by decide +kernel
theorem dvof_3 : decode jdk_42_method_139_code 3 = .ok (.ifCond .eq 23, 3) := by decide +kernel
theorem dvof_6 : decode jdk_42_method_139_code 6 = .ok (.iload_n 0, 1) := by decide +kernel
theorem dvof_7 : decode jdk_42_method_139_code 7 = .ok (.invokestatic 1015, 3) := by decide +kernel
theorem dvof_10 : decode jdk_42_method_139_code 10 = .ok (.ifCond .eq 16, 3) := by decide +kernel
theorem dvof_13 : decode jdk_42_method_139_code 13 = .ok (.new 10, 3) := by decide +kernel
theorem dvof_16 : decode jdk_42_method_139_code 16 = .ok (.dup, 1) := by decide +kernel
theorem dvof_17 : decode jdk_42_method_139_code 17 = .ok (.iload_n 0, 1) := by decide +kernel
theorem dvof_18 : decode jdk_42_method_139_code 18 = .ok (.invokestatic 1018, 3) := by decide +kernel
theorem dvof_21 : decode jdk_42_method_139_code 21 = .ok (.iconst 0, 1) := by decide +kernel
theorem dvof_22 : decode jdk_42_method_139_code 22 = .ok (.invokespecial 209, 3) := by decide +kernel
theorem dvof_25 : decode jdk_42_method_139_code 25 = .ok (.areturn, 1) := by decide +kernel
theorem dvof_26 : decode jdk_42_method_139_code 26 = .ok (.new 10, 3) := by decide +kernel
theorem dvof_29 : decode jdk_42_method_139_code 29 = .ok (.dup, 1) := by decide +kernel
theorem dvof_30 : decode jdk_42_method_139_code 30 = .ok (.iload_n 0, 1) := by decide +kernel
theorem dvof_31 : decode jdk_42_method_139_code 31 = .ok (.invokestatic 1021, 3) := by decide +kernel
theorem dvof_34 : decode jdk_42_method_139_code 34 = .ok (.iconst 1, 1) := by decide +kernel
theorem dvof_35 : decode jdk_42_method_139_code 35 = .ok (.invokespecial 209, 3) := by decide +kernel
theorem dvof_38 : decode jdk_42_method_139_code 38 = .ok (.areturn, 1) := by decide +kernel
theorem ef_vof (m : MethodId) (c0 : Int32) : entryFrame m #[.int c0] 1 = mkF m 0 #[.val (.int c0)] [] := by first | (simp [entryFrame, mkF, argsToLocals, Value.category]; done) | rfl
set_option maxRecDepth 65536 in
set_option maxHeartbeats 40000000 in
theorem rm_vof {l : Launch} {Z : State} {a0 : Array Value} {zc : Int32} {fm : Value} (G : Gl Z a0 zc fm) (h : Heap) (c0 : Int32) (hc0 : Chr c0) :
    Met l Z consts_1 (⟨"java/lang/String", "valueOf", "(C)Ljava/lang/String;"⟩ : MethodName) jdk_42_method_139_code 1 (some (.object "java/lang/String")) ({ frames := 2, cells := 2, slots := 6, locals := 29 } : Room) #[.int c0] h [] [] (fun v h' => ∃ x, v = some (.ref x) ∧ Str Z h' x [c0]) := by
  have G0 := G
  obtain ⟨hw, hEL, SC, hz, SF, hfm, SA, SH, SL⟩ := G
  have hw1 : ∀ d ∈ StrChars.Road.words, d.before a0 Z = true := fun d q => hw d (sub1 d q)
  have hwA : ∀ d ∈ Bundle.stringAtoms, d.before a0 Z = true := fun d q => hw d (subA d q)
  refine Met.of (plainFor_of_name pn_1) ?_
  intro p e s m below meth c T hnm hret hlk hby hml hs w
  have hZ0 := w.old
  refine Run.cast (ef_vof m c0) ?_
  refine w_getS w (hw _ (List.mem_of_getElem? (i := 19) rfl)) Via.refl (SC.ext w.old) (hb hby dvof_0) (pc' := 3) rfl fun T w => ?_
  refine s_if_eq w (hb hby dvof_3) (by decide) (pc1 := 6) rfl (pc2 := 26) rfl (fun ct1 => ?_) (fun ct1 => ?_)
  · skip
    refine s_iload_n w (hb hby dvof_6) rfl (pc' := 7) rfl ?_
    refine w_staticN w hEL (y := (⟨"java/lang/StringLatin1", "canEncode", "(C)Z"⟩ : MethodName)) (hw _ (List.mem_of_getElem? (i := 201) rfl)) (hw _ (List.mem_of_getElem? (i := 202) rfl)) (hw _ (List.mem_of_getElem? (i := 188) rfl)) (hw _ (List.mem_of_getElem? (i := 203) rfl)) (by decide) (rm_canE G0 h c0) all0 all0 (argsL := [.int c0]) (rest := []) (lenOf (by decide +kernel : parseMethodDescriptor "(C)Z" = some ⟨[.char], (some .boolean)⟩) rfl) rfl rfl (hb hby dvof_7) (by rw [hml]; rfl) (W := 0) (Nat.le_of_eq rfl) (by decide) (by decide) (by decide) (by decide) (pc' := 10) rfl fun u2 N3 T h4 w K5 P6 => ?_
    obtain ⟨rfl, P7⟩ := P6
    obtain ⟨rfl, rfl⟩ := P7
    generalize hcz : (if (255 : Int32) < c0 then (0 : Int32) else 1) = cz
    show Run p e below _ T (mkF m 10 #[.val (.int c0)] [.int cz])
    refine s_if_eq w (hb hby dvof_10) (by decide) (pc1 := 13) rfl (pc2 := 26) rfl (fun ct8 => ?_) (fun ct8 => ?_)
    · -- ¬ (cz = 0)
      refine w_new w (hw _ (List.mem_of_getElem? (i := 204) rfl)) (hw _ (List.mem_of_getElem? (i := 6) rfl)) (hw _ (List.mem_of_getElem? (i := 7) rfl)) (hb hby dvof_13) (pc' := 16) rfl (by decide) (by decide) fun T h9 x10 w E11 q12 r13 A14 D15 => ?_
      have F_coder_x10 : Fld Z h9 x10 "java/lang/String" "coder" "B" (.int 0) := D15 (Or.inr (hw _ (List.mem_of_getElem? (i := 32) rfl))) (ty := .byte) (by decide)
      have F_value_x10 : Fld Z h9 x10 "java/lang/String" "value" "[B" (.null) := D15 (Or.inr (hw _ (List.mem_of_getElem? (i := 34) rfl))) (ty := (.array .byte)) (by decide)
      refine s_dup w (hb hby dvof_16) rfl (pc' := 17) rfl ?_
      refine s_iload_n w (hb hby dvof_17) rfl (pc' := 18) rfl ?_
      refine w_staticN w hEL (y := (⟨"java/lang/StringLatin1", "toBytes", "(C)[B"⟩ : MethodName)) (hw _ (List.mem_of_getElem? (i := 261) rfl)) (hw _ (List.mem_of_getElem? (i := 262) rfl)) (hw _ (List.mem_of_getElem? (i := 188) rfl)) (hw _ (List.mem_of_getElem? (i := 263) rfl)) (by decide) (rm_toB G0 h9 c0) all0 all0 (argsL := [.int c0]) (rest := [.ref x10, .ref x10]) (lenOf (by decide +kernel : parseMethodDescriptor "(C)[B" = some ⟨[.char], (some (.array .byte))⟩) rfl) rfl rfl (hb hby dvof_18) (by rw [hml]; rfl) (W := 2) (Nat.le_of_eq rfl) (by decide) (by decide) (by decide) (by decide) (pc' := 21) rfl fun u16 N17 T h18 w K19 P20 => ?_
      obtain ⟨rfl, P21⟩ := P20
      obtain ⟨t9, k9, rfl, q9, A9⟩ := P21
      have E22 := Keep.ext0 K19
      show Run p e below _ T (mkF m 21 #[.val (.int c0)] [.ref t9, .ref x10, .ref x10])
      refine s_iconst w (hb hby dvof_21) (v := 0) rfl (pc' := 22) rfl ?_
      refine w_specialN w hEL (y := (⟨"java/lang/String", "<init>", "([BB)V"⟩ : MethodName)) (a := x10) rfl (hw _ (List.mem_of_getElem? (i := 214) rfl)) (hw _ (List.mem_of_getElem? (i := 215) rfl)) (hw _ (List.mem_of_getElem? (i := 7) rfl)) (hw _ (List.mem_of_getElem? (i := 216) rfl)) (by decide) (rm_iBB G0 h18 x10 t9 0 _ _ ⟨rfl, rfl⟩ (A14.ext E22) (F_value_x10.ext E22) (F_coder_x10.ext E22)) (allS (List.mem_of_getElem? (i := 0) rfl) all0) (allS (Or.inr r13) all0) (argsL := [.ref t9, .int 0]) (rest := [.ref x10]) (lenOf (by decide +kernel : parseMethodDescriptor "([BB)V" = some ⟨[(.array .byte), .byte], none⟩) rfl) rfl rfl (hb hby dvof_22) (by rw [hml]; rfl) (W := 1) (Nat.le_of_eq rfl) (by decide) (by decide) (by decide) (by decide) (pc' := 25) rfl fun u23 N24 T h25 w K26 P27 => ?_
      obtain ⟨rfl, P28⟩ := P27
      obtain ⟨rfl, E9, V9, C9⟩ := P28
      have B9 := A9.keep K26 (ninS (Exa.neArv (A14.ext E22) A9 (hw _ (List.mem_of_getElem? (i := 6) rfl))).symm nin0)
      have E29 := Ext.kp (Ext.tr E11 E22) K26 (allS q12 all0)
      show Run p e below _ T (mkF m 25 #[.val (.int c0)] [.ref x10])
      have lc : Lat c0 := ⟨hc0.1, fun q => ct8 (by rw [← hcz, if_pos q])⟩
      exact w_areturn w hEL hs hlk hret rfl rfl (hb hby dvof_25) (by decide) (by decide) ⟨x10, rfl, Str.low E9 V9 C9 (cs := [c0]) rfl rfl B9 (by intro c q; rw [List.mem_singleton.mp q]; exact lc) (Nat.le_of_ble_eq_true rfl)⟩
    · -- cz = 0
      refine w_new w (hw _ (List.mem_of_getElem? (i := 204) rfl)) (hw _ (List.mem_of_getElem? (i := 6) rfl)) (hw _ (List.mem_of_getElem? (i := 7) rfl)) (hb hby dvof_26) (pc' := 29) rfl (by decide) (by decide) fun T h30 x31 w E32 q33 r34 A35 D36 => ?_
      have F_coder_x31 : Fld Z h30 x31 "java/lang/String" "coder" "B" (.int 0) := D36 (Or.inr (hw _ (List.mem_of_getElem? (i := 32) rfl))) (ty := .byte) (by decide)
      have F_value_x31 : Fld Z h30 x31 "java/lang/String" "value" "[B" (.null) := D36 (Or.inr (hw _ (List.mem_of_getElem? (i := 34) rfl))) (ty := (.array .byte)) (by decide)
      refine s_dup w (hb hby dvof_29) rfl (pc' := 30) rfl ?_
      refine s_iload_n w (hb hby dvof_30) rfl (pc' := 31) rfl ?_
      refine w_staticN w hEL (y := (⟨"java/lang/StringUTF16", "toBytes", "(C)[B"⟩ : MethodName)) (hw _ (List.mem_of_getElem? (i := 205) rfl)) (hw _ (List.mem_of_getElem? (i := 206) rfl)) (hw _ (List.mem_of_getElem? (i := 22) rfl)) (hw _ (List.mem_of_getElem? (i := 207) rfl)) (by decide) (rm_utb G0 h30 c0) all0 all0 (argsL := [.int c0]) (rest := [.ref x31, .ref x31]) (lenOf (by decide +kernel : parseMethodDescriptor "(C)[B" = some ⟨[.char], (some (.array .byte))⟩) rfl) rfl rfl (hb hby dvof_31) (by rw [hml]; rfl) (W := 2) (Nat.le_of_eq rfl) (by decide) (by decide) (by decide) (by decide) (pc' := 34) rfl fun u37 N38 T h39 w K40 P41 => ?_
      obtain ⟨rfl, P42⟩ := P41
      obtain ⟨t9, k9, rfl, q9, A9⟩ := P42
      have E43 := Keep.ext0 K40
      show Run p e below _ T (mkF m 34 #[.val (.int c0)] [.ref t9, .ref x31, .ref x31])
      refine s_iconst w (hb hby dvof_34) (v := 1) rfl (pc' := 35) rfl ?_
      refine w_specialN w hEL (y := (⟨"java/lang/String", "<init>", "([BB)V"⟩ : MethodName)) (a := x31) rfl (hw _ (List.mem_of_getElem? (i := 214) rfl)) (hw _ (List.mem_of_getElem? (i := 215) rfl)) (hw _ (List.mem_of_getElem? (i := 7) rfl)) (hw _ (List.mem_of_getElem? (i := 216) rfl)) (by decide) (rm_iBB G0 h39 x31 t9 1 _ _ ⟨rfl, rfl⟩ (A35.ext E43) (F_value_x31.ext E43) (F_coder_x31.ext E43)) (allS (List.mem_of_getElem? (i := 0) rfl) all0) (allS (Or.inr r34) all0) (argsL := [.ref t9, .int 1]) (rest := [.ref x31]) (lenOf (by decide +kernel : parseMethodDescriptor "([BB)V" = some ⟨[(.array .byte), .byte], none⟩) rfl) rfl rfl (hb hby dvof_35) (by rw [hml]; rfl) (W := 1) (Nat.le_of_eq rfl) (by decide) (by decide) (by decide) (by decide) (pc' := 38) rfl fun u44 N45 T h46 w K47 P48 => ?_
      obtain ⟨rfl, P49⟩ := P48
      obtain ⟨rfl, E9, V9, C9⟩ := P49
      have B9 := A9.keep K47 (ninS (Exa.neArv (A35.ext E43) A9 (hw _ (List.mem_of_getElem? (i := 6) rfl))).symm nin0)
      have E50 := Ext.kp (Ext.tr E32 E43) K47 (allS q33 all0)
      show Run p e below _ T (mkF m 38 #[.val (.int c0)] [.ref x31])
      have lw : (255 : Int32) < c0 := Decidable.byContradiction fun q => absurd (hcz.trans ct8) (by rw [if_neg q]; decide)
      exact w_areturn w hEL hs hlk hret rfl rfl (hb hby dvof_38) (by decide) (by decide) ⟨x31, rfl, E9, t9, k9, 1, 2, _, V9, C9, B9, Or.inr ⟨rfl, rfl, rfl, c0, List.mem_singleton.mpr rfl, lw⟩, (by intro c q; rw [List.mem_singleton.mp q]; exact hc0), (Nat.le_of_ble_eq_true rfl)⟩
  · exact absurd ct1 hz
theorem i32_65535 : (65535 : Int32).toInt = 65535 := by decide
theorem chr_iff {c : Int32} : Chr c ↔ 0 ≤ c.toInt ∧ c.toInt ≤ 65535 := by
  unfold Chr
  rw [Int32.lt_iff_toInt_lt, Int32.lt_iff_toInt_lt, i32_0, i32_65535]
  omega
theorem Chr.nar {c : Int32} (h : Chr c) : nar .char c = c := nar_id (by have := chr_iff.mp h; omega)
theorem chr_nar (x : Int32) : Chr (nar .char x) := by
  have q := c_i2c x
  rw [← nar_char] at q
  rw [chr_iff]
  omega

theorem Str.keepO {Z : State} {a0 : Array Value} {h h' : Heap} {x y : Addr} {cs : List Int32} {C : String} {n : Nat} (F : Str Z h y cs) (K : Keep h h' [x]) (E : Exa Z h x C) (hC : C ≠ "java/lang/String") (wi : (Jvm.Cond.instantiable C n).before a0 Z = true) : Str Z h' y cs := by
  obtain ⟨a, t, kb, cd, N2, vs, q1, q2, q3, q4⟩ := F
  have n1 : y ∉ [x] := ninS (ne_exa E a hC).symm nin0
  have n2 : t ∉ [x] := ninS (Exa.neArv E q3 wi).symm nin0
  exact ⟨a.keep K, t, kb, cd, N2, vs, q1.keep K n1, q2.keep K n1, q3.keep K n2, q4⟩
abbrev OPT : String := "com/example/tuikuan/tuikuan/Usage$Option"
abbrev SD : String := "Ljava/lang/String;"
def strM (n c0 c1 : Int32) : List Int32 := if n = 0 then [] else if n = 1 then [c0] else [c0, c1]
theorem dmake_0 : decode method_2_code 0 = .ok (.iload_n 0, 1) := by decide +kernel
theorem dmake_1 : decode method_2_code 1 = .ok (.ifCond .ne 6, 3) := by decide +kernel
theorem dmake_4 : decode method_2_code 4 = .ok (.ldc 7, 2) := by decide +kernel
theorem dmake_6 : decode method_2_code 6 = .ok (.areturn, 1) := by decide +kernel
theorem dmake_7 : decode method_2_code 7 = .ok (.iload_n 0, 1) := by decide +kernel
theorem dmake_8 : decode method_2_code 8 = .ok (.iconst 1, 1) := by decide +kernel
theorem dmake_9 : decode method_2_code 9 = .ok (.if_icmp .ne 8, 3) := by decide +kernel
theorem dmake_12 : decode method_2_code 12 = .ok (.iload_n 1, 1) := by decide +kernel
theorem dmake_13 : decode method_2_code 13 = .ok (.invokestatic 9, 3) := by decide +kernel
theorem dmake_16 : decode method_2_code 16 = .ok (.areturn, 1) := by decide +kernel
theorem dmake_17 : decode method_2_code 17 = .ok (.new 10, 3) := by decide +kernel
theorem dmake_20 : decode method_2_code 20 = .ok (.dup, 1) := by decide +kernel
theorem dmake_21 : decode method_2_code 21 = .ok (.iconst 2, 1) := by decide +kernel
theorem dmake_22 : decode method_2_code 22 = .ok (.newarray .char, 2) := by decide +kernel
theorem dmake_24 : decode method_2_code 24 = .ok (.dup, 1) := by decide +kernel
theorem dmake_25 : decode method_2_code 25 = .ok (.iconst 0, 1) := by decide +kernel
theorem dmake_26 : decode method_2_code 26 = .ok (.iload_n 1, 1) := by decide +kernel
theorem dmake_27 : decode method_2_code 27 = .ok (.castore, 1) := by decide +kernel
theorem dmake_28 : decode method_2_code 28 = .ok (.dup, 1) := by decide +kernel
theorem dmake_29 : decode method_2_code 29 = .ok (.iconst 1, 1) := by decide +kernel
theorem dmake_30 : decode method_2_code 30 = .ok (.iload_n 2, 1) := by decide +kernel
theorem dmake_31 : decode method_2_code 31 = .ok (.castore, 1) := by decide +kernel
theorem dmake_32 : decode method_2_code 32 = .ok (.invokespecial 15, 3) := by decide +kernel
theorem dmake_35 : decode method_2_code 35 = .ok (.areturn, 1) := by decide +kernel
theorem pn_7 : plainName "com/example/tuikuan/tuikuan/OptionSynopsisPinLaw" = true := by first | (simp [plainName, overriddenIn]; done) | decide +kernel
theorem ef_make (m : MethodId) (n : Int32) (c0 : Int32) (c1 : Int32) : entryFrame m #[.int n, .int c0, .int c1] 3 = mkF m 0 #[.val (.int n), .val (.int c0), .val (.int c1)] [] := by first | (simp [entryFrame, mkF, argsToLocals, Value.category]; done) | rfl
set_option maxRecDepth 65536 in
set_option maxHeartbeats 40000000 in
theorem rm_make {l : Launch} {Z : State} {a0 : Array Value} {zc : Int32} {fm : Value} (G : Gl Z a0 zc fm) (h : Heap) (n : Int32) (c0 : Int32) (c1 : Int32) (l0 : Chr c0) (l1 : Chr c1) :
    Met l Z consts_1 (⟨"com/example/tuikuan/tuikuan/OptionSynopsisPinLaw", "make", "(ICC)Ljava/lang/String;"⟩ : MethodName) method_2_code 3 (some (.object "java/lang/String")) ({ frames := 6, cells := 4, slots := 54, locals := 88 } : Room) #[.int n, .int c0, .int c1] h [] [] (fun v h' => ∃ x, v = some (.ref x) ∧ Str Z h' x (strM n c0 c1)) := by
  have G0 := G
  obtain ⟨hw, hEL, SC, hz, SF, hfm, SA, SH, SL⟩ := G
  have hw1 : ∀ d ∈ StrChars.Road.words, d.before a0 Z = true := fun d q => hw d (sub1 d q)
  have hwA : ∀ d ∈ Bundle.stringAtoms, d.before a0 Z = true := fun d q => hw d (subA d q)
  refine Met.of (plainFor_of_name pn_7) ?_
  intro p e s m below meth c T hnm hret hlk hby hml hs w
  have hZ0 := w.old
  refine Run.cast (ef_make m n c0 c1) ?_
  refine s_iload_n w (hb hby dmake_0) rfl (pc' := 1) rfl ?_
  refine s_if_ne w (hb hby dmake_1) (by decide) (pc1 := 4) rfl (pc2 := 7) rfl (fun ct1 => ?_) (fun ct1 => ?_)
  · -- n = 0
    refine w_ldcS w hEL (text := "") (hw _ (List.mem_of_getElem? (i := 35) rfl)) hwA (by decide) (vs := []) (z := 0) (n := 0) ⟨by decide, by decide⟩ (by decide) rfl (by decide) (by decide) (hb hby dmake_4) (pc' := 6) rfl (by decide) (by decide) fun T h2 x3 t4 kb5 w E6 A7 C8 V9 K10 N11 => ?_
    have F12 : Str Z h2 x3 [] := Str.low A7 V9 C8 rfl rfl K10 (by decide) (by decide)
    refine w_areturn w hEL hs hlk hret rfl rfl (hb hby dmake_6) (by decide) (by decide) ⟨x3, rfl, ?_⟩
    have e : strM n c0 c1 = [] := by simp [strM, ct1]
    rw [e]; exact F12
  · -- ¬ (n = 0)
    refine s_iload_n w (hb hby dmake_7) rfl (pc' := 8) rfl ?_
    refine s_iconst w (hb hby dmake_8) (v := 1) rfl (pc' := 9) rfl ?_
    refine s_icmp_ne w (hb hby dmake_9) (by decide) (pc1 := 12) rfl (pc2 := 17) rfl (fun ct13 => ?_) (fun ct13 => ?_)
    · -- n = 1
      refine s_iload_n w (hb hby dmake_12) rfl (pc' := 13) rfl ?_
      refine w_staticN w hEL (y := (⟨"java/lang/String", "valueOf", "(C)Ljava/lang/String;"⟩ : MethodName)) (hw _ (List.mem_of_getElem? (i := 198) rfl)) (hw _ (List.mem_of_getElem? (i := 199) rfl)) (hw _ (List.mem_of_getElem? (i := 7) rfl)) (hw _ (List.mem_of_getElem? (i := 200) rfl)) (by decide) (rm_vof G0 h c0 l0) all0 all0 (argsL := [.int c0]) (rest := []) (lenOf (by decide +kernel : parseMethodDescriptor "(C)Ljava/lang/String;" = some ⟨[.char], (some (.object "java/lang/String"))⟩) rfl) rfl rfl (hb hby dmake_13) (by rw [hml]; rfl) (W := 0) (Nat.le_of_eq rfl) (by decide) (by decide) (by decide) (by decide) (pc' := 16) rfl fun u14 N15 T h16 w K17 P18 => ?_
      obtain ⟨rfl, P19⟩ := P18
      obtain ⟨y, rfl, Fy⟩ := P19
      have E20 := Keep.ext0 K17
      show Run p e below _ T (mkF m 16 #[.val (.int n), .val (.int c0), .val (.int c1)] [.ref y])
      refine w_areturn w hEL hs hlk hret rfl rfl (hb hby dmake_16) (by decide) (by decide) ⟨y, rfl, ?_⟩
      have e : strM n c0 c1 = [c0] := by simp [strM, ct1, ct13]
      rw [e]; exact Fy
    · -- ¬ (n = 1)
      refine w_new w (hw _ (List.mem_of_getElem? (i := 5) rfl)) (hw _ (List.mem_of_getElem? (i := 6) rfl)) (hw _ (List.mem_of_getElem? (i := 7) rfl)) (hb hby dmake_17) (pc' := 20) rfl (by decide) (by decide) fun T h21 x22 w E23 q24 r25 A26 D27 => ?_
      have F_coder_x22 : Fld Z h21 x22 "java/lang/String" "coder" "B" (.int 0) := D27 (Or.inr (hw _ (List.mem_of_getElem? (i := 32) rfl))) (ty := .byte) (by decide)
      have F_value_x22 : Fld Z h21 x22 "java/lang/String" "value" "[B" (.null) := D27 (Or.inr (hw _ (List.mem_of_getElem? (i := 34) rfl))) (ty := (.array .byte)) (by decide)
      refine s_dup w (hb hby dmake_20) rfl (pc' := 21) rfl ?_
      refine s_iconst w (hb hby dmake_21) (v := 2) rfl (pc' := 22) rfl ?_
      refine w_newP w (hw _ (List.mem_of_getElem? (i := 8) rfl)) rfl rfl (hb hby dmake_22) (by decide) (n := 2) (by decide) (by decide) (pc' := 24) rfl (by decide) (by decide) fun T h28 x29 k30 w E31 q32 r33 V34 => ?_
      refine s_dup w (hb hby dmake_24) rfl (pc' := 25) rfl ?_
      refine s_iconst w (hb hby dmake_25) (v := 0) rfl (pc' := 26) rfl ?_
      refine s_iload_n w (hb hby dmake_26) rfl (pc' := 27) rfl ?_
      refine w_stC w V34 (i := 0) (by decide) rfl (by decide) (Nat.le_of_ble_eq_true rfl) l0.nar (hb hby dmake_27) (Or.inr r33) (pc' := 28) rfl fun T h35 w W36 V37 => ?_
      have E38 := Ext.wr' E31 W36 q32
      refine s_dup w (hb hby dmake_28) rfl (pc' := 29) rfl ?_
      refine s_iconst w (hb hby dmake_29) (v := 1) rfl (pc' := 30) rfl ?_
      refine s_iload_n w (hb hby dmake_30) rfl (pc' := 31) rfl ?_
      refine w_stC w V37 (i := 1) (by decide) rfl (by decide) (Nat.le_of_ble_eq_true rfl) l1.nar (hb hby dmake_31) (Or.inr r33) (pc' := 32) rfl fun T h39 w W40 V41 => ?_
      have E42 := Ext.wr' E38 W40 q32
      refine w_special w hEL (y := (⟨"java/lang/String", "<init>", "([C)V"⟩ : MethodName)) (a := x22) rfl (hw _ (List.mem_of_getElem? (i := 9) rfl)) (hw _ (List.mem_of_getElem? (i := 10) rfl)) (hw _ (List.mem_of_getElem? (i := 7) rfl)) (hw _ (List.mem_of_getElem? (i := 11) rfl)) (by decide) (rm_in1 G0 h39 x22 x29 2 k30 [c0, c1] _ _ rfl (Nat.le_of_ble_eq_true rfl) (Nat.le_of_ble_eq_true rfl) (by intro c q; simp only [List.mem_cons, List.not_mem_nil, or_false] at q; rcases q with rfl | rfl <;> first | exact l0 | exact l1) (show Arv Z h39 x29 k30 .char 2 (([c0, c1] : List Int32).map Value.int) (.int 0) from V41) (A26.ext E42) (F_value_x22.ext E42) (F_coder_x22.ext E42)) (allS (List.mem_of_getElem? (i := 1) rfl) all0) (allS (Or.inr r25) all0) (argsL := [.ref x29]) (rest := [.ref x22]) (lenOf (by decide +kernel : parseMethodDescriptor "([C)V" = some ⟨[(.array .char)], none⟩) rfl) rfl rfl (hb hby dmake_32) (by rw [hml]; rfl) (W := 1) (Nat.le_of_eq rfl) (by decide) (by decide) (by decide) (by decide) (pc' := 35) rfl fun u43 T h44 w K45 P46 => ?_
      obtain ⟨rfl, F47⟩ := P46
      have E48 := Ext.kp (Ext.tr E23 E42) K45 (allS q24 all0)
      show Run p e below _ T (mkF m 35 #[.val (.int n), .val (.int c0), .val (.int c1)] [.ref x22])
      refine w_areturn w hEL hs hlk hret rfl rfl (hb hby dmake_35) (by decide) (by decide) ⟨x22, rfl, ?_⟩
      have e : strM n c0 c1 = [c0, c1] := by simp [strM, ct1, ct13]
      rw [e]; exact F47
theorem drec_0 : decode jdk_30_method_1_code 0 = .ok (.aload_n 0, 1) := by decide +kernel
theorem drec_1 : decode jdk_30_method_1_code 1 = .ok (.invokespecial 1, 3) := by decide +kernel
theorem drec_4 : decode jdk_30_method_1_code 4 = .ok (.return_, 1) := by decide +kernel
theorem pn_8 : plainName "java/lang/Record" = true := by first | (simp [plainName, overriddenIn]; done) | decide +kernel
theorem ef_rec (m : MethodId) (a : Addr) : entryFrame m #[.ref a] 1 = mkF m 0 #[.val (.ref a)] [] := by first | (simp [entryFrame, mkF, argsToLocals, Value.category]; done) | rfl
set_option maxRecDepth 65536 in
set_option maxHeartbeats 40000000 in
theorem rm_rec {l : Launch} {Z : State} {a0 : Array Value} {zc : Int32} {fm : Value} (G : Gl Z a0 zc fm) (h : Heap) (a : Addr)  :
    Met l Z consts_1 (⟨"java/lang/Record", "<init>", "()V"⟩ : MethodName) jdk_30_method_1_code 1 none ({ frames := 1, cells := 0, slots := 0, locals := 12 } : Room) #[.ref a] h [] [] (fun v h' => v = none ∧ h = h') := by
  have G0 := G
  obtain ⟨hw, hEL, SC, hz, SF, hfm, SA, SH, SL⟩ := G
  have hw1 : ∀ d ∈ StrChars.Road.words, d.before a0 Z = true := fun d q => hw d (sub1 d q)
  have hwA : ∀ d ∈ Bundle.stringAtoms, d.before a0 Z = true := fun d q => hw d (subA d q)
  refine Met.of (plainFor_of_name pn_8) ?_
  intro p e s m below meth c T hnm hret hlk hby hml hs w
  have hZ0 := w.old
  refine Run.cast (ef_rec m a) ?_
  refine s_aload_n w (hb hby drec_0) rfl rfl (pc' := 1) rfl ?_
  refine w_objInit w (hw _ (List.mem_of_getElem? (i := 49) rfl)) (hw _ (List.mem_of_getElem? (i := 17) rfl)) (hw _ (List.mem_of_getElem? (i := 18) rfl)) (hb hby drec_1) (by rw [hml]; rfl) (by decide) (W := 0) (Nat.le_of_eq rfl) (by decide) (pc' := 4) rfl fun T w => ?_
  exact w_return w hEL hs hlk hret (hb hby drec_4) (by decide) (by decide) ⟨rfl, rfl⟩
theorem doin_0 : decode prog_35_method_1_code 0 = .ok (.aload_n 0, 1) := by decide +kernel
theorem doin_1 : decode prog_35_method_1_code 1 = .ok (.invokespecial 1, 3) := by decide +kernel
theorem doin_4 : decode prog_35_method_1_code 4 = .ok (.aload_n 0, 1) := by decide +kernel
theorem doin_5 : decode prog_35_method_1_code 5 = .ok (.aload_n 1, 1) := by decide +kernel
theorem doin_6 : decode prog_35_method_1_code 6 = .ok (.putfield 7, 3) := by decide +kernel
theorem doin_9 : decode prog_35_method_1_code 9 = .ok (.aload_n 0, 1) := by decide +kernel
theorem doin_10 : decode prog_35_method_1_code 10 = .ok (.aload_n 2, 1) := by decide +kernel
theorem doin_11 : decode prog_35_method_1_code 11 = .ok (.putfield 13, 3) := by decide +kernel
theorem doin_14 : decode prog_35_method_1_code 14 = .ok (.aload_n 0, 1) := by decide +kernel
theorem doin_15 : decode prog_35_method_1_code 15 = .ok (.aload_n 3, 1) := by decide +kernel
theorem doin_16 : decode prog_35_method_1_code 16 = .ok (.putfield 16, 3) := by decide +kernel
theorem doin_19 : decode prog_35_method_1_code 19 = .ok (.return_, 1) := by decide +kernel
theorem pn_9 : plainName "com/example/tuikuan/tuikuan/Usage$Option" = true := by first | (simp [plainName, overriddenIn]; done) | decide +kernel
theorem ef_oin (m : MethodId) (a : Addr) (x : Addr) (y : Addr) (z : Addr) : entryFrame m #[.ref a, .ref x, .ref y, .ref z] 4 = mkF m 0 #[.val (.ref a), .val (.ref x), .val (.ref y), .val (.ref z)] [] := by first | (simp [entryFrame, mkF, argsToLocals, Value.category]; done) | rfl
set_option maxRecDepth 65536 in
set_option maxHeartbeats 40000000 in
theorem rm_oin {l : Launch} {Z : State} {a0 : Array Value} {zc : Int32} {fm : Value} (G : Gl Z a0 zc fm) (h : Heap) (a : Addr) (x : Addr) (y : Addr) (z : Addr) (v0 v1 v2 : Value) (E0 : Exa Z h a OPT) (G0_ : Fld Z h a OPT "name" SD v0) (G1_ : Fld Z h a OPT "value" SD v1) (G2_ : Fld Z h a OPT "meaning" SD v2) :
    Met l Z consts_1 (⟨"com/example/tuikuan/tuikuan/Usage$Option", "<init>", "(Ljava/lang/String;Ljava/lang/String;Ljava/lang/String;)V"⟩ : MethodName) prog_35_method_1_code 4 none ({ frames := 2, cells := 0, slots := 0, locals := 24 } : Room) #[.ref a, .ref x, .ref y, .ref z] h [] [a] (fun v h' => v = none ∧ Exa Z h' a OPT ∧ Fld Z h' a OPT "name" SD (.ref x) ∧ Fld Z h' a OPT "value" SD (.ref y)) := by
  have G0 := G
  obtain ⟨hw, hEL, SC, hz, SF, hfm, SA, SH, SL⟩ := G
  have hw1 : ∀ d ∈ StrChars.Road.words, d.before a0 Z = true := fun d q => hw d (sub1 d q)
  have hwA : ∀ d ∈ Bundle.stringAtoms, d.before a0 Z = true := fun d q => hw d (subA d q)
  refine Met.of (plainFor_of_name pn_9) ?_
  intro p e s m below meth c T hnm hret hlk hby hml hs w
  have hZ0 := w.old
  refine Run.cast (ef_oin m a x y z) ?_
  refine s_aload_n w (hb hby doin_0) rfl rfl (pc' := 1) rfl ?_
  refine w_specialN w hEL (y := (⟨"java/lang/Record", "<init>", "()V"⟩ : MethodName)) (a := a) rfl (hw _ (List.mem_of_getElem? (i := 44) rfl)) (hw _ (List.mem_of_getElem? (i := 45) rfl)) (hw _ (List.mem_of_getElem? (i := 47) rfl)) (hw _ (List.mem_of_getElem? (i := 48) rfl)) (by decide) (rm_rec G0 h a) all0 all0 (argsL := []) (rest := []) (lenOf (by decide +kernel : parseMethodDescriptor "()V" = some ⟨[], none⟩) rfl) rfl rfl (hb hby doin_1) (by rw [hml]; rfl) (W := 0) (Nat.le_of_eq rfl) (by decide) (by decide) (by decide) (by decide) (pc' := 4) rfl fun u1 N2 T h3 w K4 P5 => ?_
  obtain ⟨rfl, P6⟩ := P5
  obtain ⟨rfl, rfl⟩ := P6
  show Run p e below _ T (mkF m 4 #[.val (.ref a), .val (.ref x), .val (.ref y), .val (.ref z)] [])
  refine s_aload_n w (hb hby doin_4) rfl rfl (pc' := 5) rfl ?_
  refine s_aload_n w (hb hby doin_5) rfl rfl (pc' := 6) rfl ?_
  have s10 : Jvm.RoadKit.slotOf Z OPT "value" SD ≠ Jvm.RoadKit.slotOf Z OPT "name" SD := slot_ne (Or.inr (hw _ (List.mem_of_getElem? (i := 53) rfl))) (Or.inr (hw _ (List.mem_of_getElem? (i := 51) rfl))) (by decide) (t := (.object "java/lang/String")) (t' := (.object "java/lang/String")) (by decide) (by decide)
  have s20 : Jvm.RoadKit.slotOf Z OPT "meaning" SD ≠ Jvm.RoadKit.slotOf Z OPT "name" SD := slot_ne (Or.inr (hw _ (List.mem_of_getElem? (i := 55) rfl))) (Or.inr (hw _ (List.mem_of_getElem? (i := 51) rfl))) (by decide) (t := (.object "java/lang/String")) (t' := (.object "java/lang/String")) (by decide) (by decide)
  have s21 : Jvm.RoadKit.slotOf Z OPT "meaning" SD ≠ Jvm.RoadKit.slotOf Z OPT "value" SD := slot_ne (Or.inr (hw _ (List.mem_of_getElem? (i := 55) rfl))) (Or.inr (hw _ (List.mem_of_getElem? (i := 53) rfl))) (by decide) (t := (.object "java/lang/String")) (t' := (.object "java/lang/String")) (by decide) (by decide)
  refine w_putF w (hw _ (List.mem_of_getElem? (i := 50) rfl)) Via.refl G0_ E0 (Or.inr ⟨(hw _ (List.mem_of_getElem? (i := 51) rfl)), rfl, hnm⟩) (hw _ (List.mem_of_getElem? (i := 39) rfl)) (ty := (.object "java/lang/String")) (by decide) rfl rfl (hb hby doin_6) (Or.inl (List.mem_singleton.mpr rfl)) (Or.inl ⟨by decide, by decide⟩) (pc' := 9) rfl fun T g1 w W1 F1 Y1 => ?_
  refine s_aload_n w (hb hby doin_9) rfl rfl (pc' := 10) rfl ?_
  refine s_aload_n w (hb hby doin_10) rfl rfl (pc' := 11) rfl ?_
  refine w_putF w (hw _ (List.mem_of_getElem? (i := 52) rfl)) Via.refl (G1_.other W1 (Or.inr s10)) Y1 (Or.inr ⟨(hw _ (List.mem_of_getElem? (i := 53) rfl)), rfl, hnm⟩) (hw _ (List.mem_of_getElem? (i := 39) rfl)) (ty := (.object "java/lang/String")) (by decide) rfl rfl (hb hby doin_11) (Or.inl (List.mem_singleton.mpr rfl)) (Or.inl ⟨by decide, by decide⟩) (pc' := 14) rfl fun T g2 w W2 F2 Y2 => ?_
  refine s_aload_n w (hb hby doin_14) rfl rfl (pc' := 15) rfl ?_
  refine s_aload_n w (hb hby doin_15) rfl rfl (pc' := 16) rfl ?_
  refine w_putF w (hw _ (List.mem_of_getElem? (i := 54) rfl)) Via.refl ((G2_.other W1 (Or.inr s20)).other W2 (Or.inr s21)) Y2 (Or.inr ⟨(hw _ (List.mem_of_getElem? (i := 55) rfl)), rfl, hnm⟩) (hw _ (List.mem_of_getElem? (i := 39) rfl)) (ty := (.object "java/lang/String")) (by decide) rfl rfl (hb hby doin_16) (Or.inl (List.mem_singleton.mpr rfl)) (Or.inl ⟨by decide, by decide⟩) (pc' := 19) rfl fun T g3 w W3 F3 Y3 => ?_
  exact w_return w hEL hs hlk hret (hb hby doin_19) (by decide) (by decide) ⟨rfl, Y3, (F1.other W2 (Or.inr s10.symm)).other W3 (Or.inr s20.symm), F2.other W3 (Or.inr s21.symm)⟩
theorem dsyn_0 : decode prog_35_method_2_code 0 = .ok (.new 19, 3) := by decide +kernel
theorem dsyn_3 : decode prog_35_method_2_code 3 = .ok (.dup, 1) := by decide +kernel
theorem dsyn_4 : decode prog_35_method_2_code 4 = .ok (.invokespecial 21, 3) := by decide +kernel
theorem dsyn_7 : decode prog_35_method_2_code 7 = .ok (.aload_n 0, 1) := by decide +kernel
theorem dsyn_8 : decode prog_35_method_2_code 8 = .ok (.getfield 7, 3) := by decide +kernel
theorem dsyn_11 : decode prog_35_method_2_code 11 = .ok (.invokevirtual 22, 3) := by decide +kernel
theorem dsyn_14 : decode prog_35_method_2_code 14 = .ok (.ldc 26, 2) := by decide +kernel
theorem dsyn_16 : decode prog_35_method_2_code 16 = .ok (.invokevirtual 22, 3) := by decide +kernel
theorem dsyn_19 : decode prog_35_method_2_code 19 = .ok (.aload_n 0, 1) := by decide +kernel
theorem dsyn_20 : decode prog_35_method_2_code 20 = .ok (.getfield 13, 3) := by decide +kernel
theorem dsyn_23 : decode prog_35_method_2_code 23 = .ok (.invokevirtual 22, 3) := by decide +kernel
theorem dsyn_26 : decode prog_35_method_2_code 26 = .ok (.invokevirtual 28, 3) := by decide +kernel
theorem dsyn_29 : decode prog_35_method_2_code 29 = .ok (.areturn, 1) := by decide +kernel
theorem ef_syn (m : MethodId) (a : Addr) : entryFrame m #[.ref a] 1 = mkF m 0 #[.val (.ref a)] [] := by first | (simp [entryFrame, mkF, argsToLocals, Value.category]; done) | rfl
set_option maxRecDepth 65536 in
set_option maxHeartbeats 40000000 in
theorem rm_syn {l : Launch} {Z : State} {a0 : Array Value} {zc : Int32} {fm : Value} (G : Gl Z a0 zc fm) (h : Heap) (a : Addr) (x y : Addr) (ns vs_ : List Int32) (Fn : Fld Z h a OPT "name" SD (.ref x)) (Fv : Fld Z h a OPT "value" SD (.ref y)) (Sn : Str Z h x ns) (Sv : Str Z h y vs_) (hn2 : ns.length ≤ 2) (hv2 : vs_.length ≤ 2) (hn : ns.length ≤ 8) (hv : vs_.length ≤ 8) :
    Met l Z consts_1 (⟨"com/example/tuikuan/tuikuan/Usage$Option", "synopsis", "()Ljava/lang/String;"⟩ : MethodName) prog_35_method_2_code 1 (some (.object "java/lang/String")) ({ frames := 10, cells := 7, slots := 96, locals := 143 } : Room) #[.ref a] h [] [] (fun v h' => ∃ r0, v = some (.ref r0) ∧ Str Z h' r0 (ns ++ 32 :: vs_)) := by
  have G0 := G
  obtain ⟨hw, hEL, SC, hz, SF, hfm, SA, SH, SL⟩ := G
  have hw1 : ∀ d ∈ StrChars.Road.words, d.before a0 Z = true := fun d q => hw d (sub1 d q)
  have hwA : ∀ d ∈ Bundle.stringAtoms, d.before a0 Z = true := fun d q => hw d (subA d q)
  refine Met.of (plainFor_of_name pn_9) ?_
  intro p e s m below meth c T hnm hret hlk hby hml hs w
  have hZ0 := w.old
  refine Run.cast (ef_syn m a) ?_
  rcases Str.two Sn hn with ⟨tn, kn, Xn⟩ | ⟨tn, kn, Xn⟩ <;> rcases Str.two Sv hv with ⟨tv, kv, Xv⟩ | ⟨tv, kv, Xv⟩
  · skip
    refine w_new w (hw _ (List.mem_of_getElem? (i := 61) rfl)) (hw _ (List.mem_of_getElem? (i := 62) rfl)) (hw _ (List.mem_of_getElem? (i := 63) rfl)) (hb hby dsyn_0) (pc' := 3) rfl (by decide) (by decide) fun T h1 x2 w E3 q4 r5 A6 D7 => ?_
    have F_value_x2 : Fld Z h1 x2 "java/lang/AbstractStringBuilder" "value" "[B" (.null) := D7 (Or.inl (hw _ (List.mem_of_getElem? (i := 76) rfl))) (ty := (.array .byte)) (by decide)
    have F_coder_x2 : Fld Z h1 x2 "java/lang/AbstractStringBuilder" "coder" "B" (.int 0) := D7 (Or.inl (hw _ (List.mem_of_getElem? (i := 78) rfl))) (ty := .byte) (by decide)
    have F_count_x2 : Fld Z h1 x2 "java/lang/AbstractStringBuilder" "count" "I" (.int 0) := D7 (Or.inl (hw _ (List.mem_of_getElem? (i := 100) rfl))) (ty := .int) (by decide)
    have F_maybeLatin1_x2 : Fld Z h1 x2 "java/lang/AbstractStringBuilder" "maybeLatin1" "Z" (.int 0) := D7 (Or.inl (hw _ (List.mem_of_getElem? (i := 250) rfl))) (ty := .boolean) (by decide)
    refine s_dup w (hb hby dsyn_3) rfl (pc' := 4) rfl ?_
    refine w_specialN w hEL (y := (⟨"java/lang/StringBuilder", "<init>", "()V"⟩ : MethodName)) (a := x2) rfl (hw _ (List.mem_of_getElem? (i := 64) rfl)) (hw _ (List.mem_of_getElem? (i := 65) rfl)) (hw _ (List.mem_of_getElem? (i := 63) rfl)) (hw _ (List.mem_of_getElem? (i := 66) rfl)) (by decide) (rm_sbi G0 h1 x2 _ _ A6 F_value_x2 F_coder_x2 F_count_x2 F_maybeLatin1_x2) all0 (allS (Or.inr r5) all0) (argsL := []) (rest := [.ref x2]) (lenOf (by decide +kernel : parseMethodDescriptor "()V" = some ⟨[], none⟩) rfl) rfl rfl (hb hby dsyn_4) (by rw [hml]; rfl) (W := 1) (Nat.le_of_eq rfl) (by decide) (by decide) (by decide) (by decide) (pc' := 7) rfl fun u8 N9 T h10 w K11 P12 => ?_
    obtain ⟨rfl, t0, k0_, rfl, q0, B0⟩ := P12
    have bt0 : h.size ≤ t0 := Nat.le_trans E3.1 q0
    have E13 := Ext.kp E3 K11 (allS q4 all0)
    show Run p e below _ T (mkF m 7 #[.val (.ref a)] [.ref x2])
    refine s_aload_n w (hb hby dsyn_7) rfl rfl (pc' := 8) rfl ?_
    refine w_getF w (hw _ (List.mem_of_getElem? (i := 50) rfl)) Via.refl (Fn.ext E13) (hb hby dsyn_8) (pc' := 11) rfl fun T w => ?_
    refine w_virtualN w hEL (y := (⟨"java/lang/StringBuilder", "append", "(Ljava/lang/String;)Ljava/lang/StringBuilder;"⟩ : MethodName)) (y' := (⟨"java/lang/StringBuilder", "append", "(Ljava/lang/String;)Ljava/lang/StringBuilder;"⟩ : MethodName)) (C := "java/lang/StringBuilder") (a := x2) (hw _ (List.mem_of_getElem? (i := 79) rfl)) (hw _ (List.mem_of_getElem? (i := 80) rfl)) (hw _ (List.mem_of_getElem? (i := 82) rfl)) (hw _ (List.mem_of_getElem? (i := 82) rfl)) (hw _ (List.mem_of_getElem? (i := 81) rfl)) (hw _ (List.mem_of_getElem? (i := 63) rfl)) (hw _ (List.mem_of_getElem? (i := 83) rfl)) (by decide) B0.1 (rm_app00 G0 h10 x2 x t0 tn k0_ kn [] ns B0 (Xn.ext E13) (by first | omega | (simp <;> omega)) (fun z => absurd bt0 (by rw [← z]; exact Nat.not_le.mpr Xn.2.2.2.1.lt))) (allS (List.mem_of_getElem? (i := 0) rfl) all0) (allS (Or.inr r5) (allS (Or.inr bt0) all0)) (argsL := [.ref x]) (rest := []) (lenOf (by decide +kernel : parseMethodDescriptor "(Ljava/lang/String;)Ljava/lang/StringBuilder;" = some ⟨[(.object "java/lang/String")], (some (.object "java/lang/StringBuilder"))⟩) rfl) rfl rfl (hb hby dsyn_11) (by rw [hml]; rfl) (W := 0) (Nat.le_of_eq rfl) (by decide) (by decide) (by decide) (by decide) (pc' := 14) rfl fun u14 N15 T h16 w K17 P18 => ?_
    obtain ⟨rfl, t1, k1_, rfl, q1, B1⟩ := P18
    have bt1 : h.size ≤ t1 := q1.elim (fun z => by rw [z]; exact bt0) (fun z => Nat.le_trans E13.1 z)
    have E19 := Ext.kp E13 K17 (allS q4 (allS bt0 all0))
    show Run p e below _ T (mkF m 14 #[.val (.ref a)] [.ref x2])
    refine w_ldcS w hEL (text := " ") (hw _ (List.mem_of_getElem? (i := 126) rfl)) hwA (by decide) (vs := [.int 32]) (z := 1) (n := 4) ⟨by decide, by decide⟩ (by decide) rfl (by decide) (by decide) (hb hby dsyn_14) (pc' := 16) rfl (by decide) (by decide) fun T h20 x21 t22 kb23 w E24 A25 C26 V27 K28 N29 => ?_
    have F30 : Str Z h20 x21 [32] := Str.low A25 V27 C26 rfl rfl K28 (by decide) (by decide)
    have Xc : S0 Z h20 x21 t22 kb23 [32] := ⟨A25, V27, C26, K28, (by intro c q; rw [List.mem_singleton.mp q]; unfold Lat; decide), (Nat.le_of_ble_eq_true rfl)⟩
    refine w_virtualN w hEL (y := (⟨"java/lang/StringBuilder", "append", "(Ljava/lang/String;)Ljava/lang/StringBuilder;"⟩ : MethodName)) (y' := (⟨"java/lang/StringBuilder", "append", "(Ljava/lang/String;)Ljava/lang/StringBuilder;"⟩ : MethodName)) (C := "java/lang/StringBuilder") (a := x2) (hw _ (List.mem_of_getElem? (i := 79) rfl)) (hw _ (List.mem_of_getElem? (i := 80) rfl)) (hw _ (List.mem_of_getElem? (i := 82) rfl)) (hw _ (List.mem_of_getElem? (i := 82) rfl)) (hw _ (List.mem_of_getElem? (i := 81) rfl)) (hw _ (List.mem_of_getElem? (i := 63) rfl)) (hw _ (List.mem_of_getElem? (i := 83) rfl)) (by decide) (B1.1.ext E24) (rm_app00 G0 h20 x2 x21 t1 t22 k1_ kb23 ([] ++ ns) [32] (B1.ext E24) Xc (by first | omega | (simp <;> omega)) (fun z => (N29 t1 (List.mem_of_getElem? (i := 0) rfl)).2 z.symm)) (allS (List.mem_of_getElem? (i := 0) rfl) all0) (allS (Or.inr r5) (allS (Or.inr bt1) all0)) (argsL := [.ref x21]) (rest := []) (lenOf (by decide +kernel : parseMethodDescriptor "(Ljava/lang/String;)Ljava/lang/StringBuilder;" = some ⟨[(.object "java/lang/String")], (some (.object "java/lang/StringBuilder"))⟩) rfl) rfl rfl (hb hby dsyn_16) (by rw [hml]; rfl) (W := 0) (Nat.le_of_eq rfl) (by decide) (by decide) (by decide) (by decide) (pc' := 19) rfl fun u31 N32 T h33 w K34 P35 => ?_
    obtain ⟨rfl, t2, k2_, rfl, q2, B2⟩ := P35
    have bt2 : h.size ≤ t2 := q2.elim (fun z => by rw [z]; exact bt1) (fun z => Nat.le_trans (Ext.tr E19 E24).1 z)
    have E36 := Ext.kp (Ext.tr E19 E24) K34 (allS q4 (allS bt1 all0))
    show Run p e below _ T (mkF m 19 #[.val (.ref a)] [.ref x2])
    refine s_aload_n w (hb hby dsyn_19) rfl rfl (pc' := 20) rfl ?_
    refine w_getF w (hw _ (List.mem_of_getElem? (i := 52) rfl)) Via.refl (Fv.ext E36) (hb hby dsyn_20) (pc' := 23) rfl fun T w => ?_
    refine w_virtualN w hEL (y := (⟨"java/lang/StringBuilder", "append", "(Ljava/lang/String;)Ljava/lang/StringBuilder;"⟩ : MethodName)) (y' := (⟨"java/lang/StringBuilder", "append", "(Ljava/lang/String;)Ljava/lang/StringBuilder;"⟩ : MethodName)) (C := "java/lang/StringBuilder") (a := x2) (hw _ (List.mem_of_getElem? (i := 79) rfl)) (hw _ (List.mem_of_getElem? (i := 80) rfl)) (hw _ (List.mem_of_getElem? (i := 82) rfl)) (hw _ (List.mem_of_getElem? (i := 82) rfl)) (hw _ (List.mem_of_getElem? (i := 81) rfl)) (hw _ (List.mem_of_getElem? (i := 63) rfl)) (hw _ (List.mem_of_getElem? (i := 83) rfl)) (by decide) B2.1 (rm_app00 G0 h33 x2 y t2 tv k2_ kv (([] ++ ns) ++ [32]) vs_ B2 (Xv.ext E36) (by first | omega | (simp <;> omega)) (fun z => absurd bt2 (by rw [← z]; exact Nat.not_le.mpr Xv.2.2.2.1.lt))) (allS (List.mem_of_getElem? (i := 0) rfl) all0) (allS (Or.inr r5) (allS (Or.inr bt2) all0)) (argsL := [.ref y]) (rest := []) (lenOf (by decide +kernel : parseMethodDescriptor "(Ljava/lang/String;)Ljava/lang/StringBuilder;" = some ⟨[(.object "java/lang/String")], (some (.object "java/lang/StringBuilder"))⟩) rfl) rfl rfl (hb hby dsyn_23) (by rw [hml]; rfl) (W := 0) (Nat.le_of_eq rfl) (by decide) (by decide) (by decide) (by decide) (pc' := 26) rfl fun u37 N38 T h39 w K40 P41 => ?_
    obtain ⟨rfl, t3, k3_, rfl, q3, B3⟩ := P41
    have bt3 : h.size ≤ t3 := q3.elim (fun z => by rw [z]; exact bt2) (fun z => Nat.le_trans E36.1 z)
    have E42 := Ext.kp E36 K40 (allS q4 (allS bt2 all0))
    show Run p e below _ T (mkF m 26 #[.val (.ref a)] [.ref x2])
    refine w_virtualN w hEL (y := (⟨"java/lang/StringBuilder", "toString", "()Ljava/lang/String;"⟩ : MethodName)) (y' := (⟨"java/lang/StringBuilder", "toString", "()Ljava/lang/String;"⟩ : MethodName)) (C := "java/lang/StringBuilder") (a := x2) (hw _ (List.mem_of_getElem? (i := 127) rfl)) (hw _ (List.mem_of_getElem? (i := 128) rfl)) (hw _ (List.mem_of_getElem? (i := 130) rfl)) (hw _ (List.mem_of_getElem? (i := 130) rfl)) (hw _ (List.mem_of_getElem? (i := 129) rfl)) (hw _ (List.mem_of_getElem? (i := 63) rfl)) (hw _ (List.mem_of_getElem? (i := 131) rfl)) (by decide) B3.1 (rm_tos0 G0 h39 x2 t3 k3_ ((([] ++ ns) ++ [32]) ++ vs_) B3 (by first | omega | (simp <;> omega))) all0 all0 (argsL := []) (rest := []) (lenOf (by decide +kernel : parseMethodDescriptor "()Ljava/lang/String;" = some ⟨[], (some (.object "java/lang/String"))⟩) rfl) rfl rfl (hb hby dsyn_26) (by rw [hml]; rfl) (W := 0) (Nat.le_of_eq rfl) (by decide) (by decide) (by decide) (by decide) (pc' := 29) rfl fun u43 N44 T h45 w K46 P47 => ?_
    obtain ⟨rfl, P48⟩ := P47
    obtain ⟨r0, rfl, S9⟩ := P48
    show Run p e below _ T (mkF m 29 #[.val (.ref a)] [.ref r0])
    exact w_areturn w hEL hs hlk hret rfl rfl (hb hby dsyn_29) (by decide) (by decide) ⟨r0, rfl, by simpa using S9⟩
  · skip
    refine w_new w (hw _ (List.mem_of_getElem? (i := 61) rfl)) (hw _ (List.mem_of_getElem? (i := 62) rfl)) (hw _ (List.mem_of_getElem? (i := 63) rfl)) (hb hby dsyn_0) (pc' := 3) rfl (by decide) (by decide) fun T h49 x50 w E51 q52 r53 A54 D55 => ?_
    have F_value_x50 : Fld Z h49 x50 "java/lang/AbstractStringBuilder" "value" "[B" (.null) := D55 (Or.inl (hw _ (List.mem_of_getElem? (i := 76) rfl))) (ty := (.array .byte)) (by decide)
    have F_coder_x50 : Fld Z h49 x50 "java/lang/AbstractStringBuilder" "coder" "B" (.int 0) := D55 (Or.inl (hw _ (List.mem_of_getElem? (i := 78) rfl))) (ty := .byte) (by decide)
    have F_count_x50 : Fld Z h49 x50 "java/lang/AbstractStringBuilder" "count" "I" (.int 0) := D55 (Or.inl (hw _ (List.mem_of_getElem? (i := 100) rfl))) (ty := .int) (by decide)
    have F_maybeLatin1_x50 : Fld Z h49 x50 "java/lang/AbstractStringBuilder" "maybeLatin1" "Z" (.int 0) := D55 (Or.inl (hw _ (List.mem_of_getElem? (i := 250) rfl))) (ty := .boolean) (by decide)
    refine s_dup w (hb hby dsyn_3) rfl (pc' := 4) rfl ?_
    refine w_specialN w hEL (y := (⟨"java/lang/StringBuilder", "<init>", "()V"⟩ : MethodName)) (a := x50) rfl (hw _ (List.mem_of_getElem? (i := 64) rfl)) (hw _ (List.mem_of_getElem? (i := 65) rfl)) (hw _ (List.mem_of_getElem? (i := 63) rfl)) (hw _ (List.mem_of_getElem? (i := 66) rfl)) (by decide) (rm_sbi G0 h49 x50 _ _ A54 F_value_x50 F_coder_x50 F_count_x50 F_maybeLatin1_x50) all0 (allS (Or.inr r53) all0) (argsL := []) (rest := [.ref x50]) (lenOf (by decide +kernel : parseMethodDescriptor "()V" = some ⟨[], none⟩) rfl) rfl rfl (hb hby dsyn_4) (by rw [hml]; rfl) (W := 1) (Nat.le_of_eq rfl) (by decide) (by decide) (by decide) (by decide) (pc' := 7) rfl fun u56 N57 T h58 w K59 P60 => ?_
    obtain ⟨rfl, t0, k0_, rfl, q0, B0⟩ := P60
    have bt0 : h.size ≤ t0 := Nat.le_trans E51.1 q0
    have E61 := Ext.kp E51 K59 (allS q52 all0)
    show Run p e below _ T (mkF m 7 #[.val (.ref a)] [.ref x50])
    refine s_aload_n w (hb hby dsyn_7) rfl rfl (pc' := 8) rfl ?_
    refine w_getF w (hw _ (List.mem_of_getElem? (i := 50) rfl)) Via.refl (Fn.ext E61) (hb hby dsyn_8) (pc' := 11) rfl fun T w => ?_
    refine w_virtualN w hEL (y := (⟨"java/lang/StringBuilder", "append", "(Ljava/lang/String;)Ljava/lang/StringBuilder;"⟩ : MethodName)) (y' := (⟨"java/lang/StringBuilder", "append", "(Ljava/lang/String;)Ljava/lang/StringBuilder;"⟩ : MethodName)) (C := "java/lang/StringBuilder") (a := x50) (hw _ (List.mem_of_getElem? (i := 79) rfl)) (hw _ (List.mem_of_getElem? (i := 80) rfl)) (hw _ (List.mem_of_getElem? (i := 82) rfl)) (hw _ (List.mem_of_getElem? (i := 82) rfl)) (hw _ (List.mem_of_getElem? (i := 81) rfl)) (hw _ (List.mem_of_getElem? (i := 63) rfl)) (hw _ (List.mem_of_getElem? (i := 83) rfl)) (by decide) B0.1 (rm_app00 G0 h58 x50 x t0 tn k0_ kn [] ns B0 (Xn.ext E61) (by first | omega | (simp <;> omega)) (fun z => absurd bt0 (by rw [← z]; exact Nat.not_le.mpr Xn.2.2.2.1.lt))) (allS (List.mem_of_getElem? (i := 0) rfl) all0) (allS (Or.inr r53) (allS (Or.inr bt0) all0)) (argsL := [.ref x]) (rest := []) (lenOf (by decide +kernel : parseMethodDescriptor "(Ljava/lang/String;)Ljava/lang/StringBuilder;" = some ⟨[(.object "java/lang/String")], (some (.object "java/lang/StringBuilder"))⟩) rfl) rfl rfl (hb hby dsyn_11) (by rw [hml]; rfl) (W := 0) (Nat.le_of_eq rfl) (by decide) (by decide) (by decide) (by decide) (pc' := 14) rfl fun u62 N63 T h64 w K65 P66 => ?_
    obtain ⟨rfl, t1, k1_, rfl, q1, B1⟩ := P66
    have bt1 : h.size ≤ t1 := q1.elim (fun z => by rw [z]; exact bt0) (fun z => Nat.le_trans E61.1 z)
    have E67 := Ext.kp E61 K65 (allS q52 (allS bt0 all0))
    show Run p e below _ T (mkF m 14 #[.val (.ref a)] [.ref x50])
    refine w_ldcS w hEL (text := " ") (hw _ (List.mem_of_getElem? (i := 126) rfl)) hwA (by decide) (vs := [.int 32]) (z := 1) (n := 4) ⟨by decide, by decide⟩ (by decide) rfl (by decide) (by decide) (hb hby dsyn_14) (pc' := 16) rfl (by decide) (by decide) fun T h68 x69 t70 kb71 w E72 A73 C74 V75 K76 N77 => ?_
    have F78 : Str Z h68 x69 [32] := Str.low A73 V75 C74 rfl rfl K76 (by decide) (by decide)
    have Xc : S0 Z h68 x69 t70 kb71 [32] := ⟨A73, V75, C74, K76, (by intro c q; rw [List.mem_singleton.mp q]; unfold Lat; decide), (Nat.le_of_ble_eq_true rfl)⟩
    refine w_virtualN w hEL (y := (⟨"java/lang/StringBuilder", "append", "(Ljava/lang/String;)Ljava/lang/StringBuilder;"⟩ : MethodName)) (y' := (⟨"java/lang/StringBuilder", "append", "(Ljava/lang/String;)Ljava/lang/StringBuilder;"⟩ : MethodName)) (C := "java/lang/StringBuilder") (a := x50) (hw _ (List.mem_of_getElem? (i := 79) rfl)) (hw _ (List.mem_of_getElem? (i := 80) rfl)) (hw _ (List.mem_of_getElem? (i := 82) rfl)) (hw _ (List.mem_of_getElem? (i := 82) rfl)) (hw _ (List.mem_of_getElem? (i := 81) rfl)) (hw _ (List.mem_of_getElem? (i := 63) rfl)) (hw _ (List.mem_of_getElem? (i := 83) rfl)) (by decide) (B1.1.ext E72) (rm_app00 G0 h68 x50 x69 t1 t70 k1_ kb71 ([] ++ ns) [32] (B1.ext E72) Xc (by first | omega | (simp <;> omega)) (fun z => (N77 t1 (List.mem_of_getElem? (i := 0) rfl)).2 z.symm)) (allS (List.mem_of_getElem? (i := 0) rfl) all0) (allS (Or.inr r53) (allS (Or.inr bt1) all0)) (argsL := [.ref x69]) (rest := []) (lenOf (by decide +kernel : parseMethodDescriptor "(Ljava/lang/String;)Ljava/lang/StringBuilder;" = some ⟨[(.object "java/lang/String")], (some (.object "java/lang/StringBuilder"))⟩) rfl) rfl rfl (hb hby dsyn_16) (by rw [hml]; rfl) (W := 0) (Nat.le_of_eq rfl) (by decide) (by decide) (by decide) (by decide) (pc' := 19) rfl fun u79 N80 T h81 w K82 P83 => ?_
    obtain ⟨rfl, t2, k2_, rfl, q2, B2⟩ := P83
    have bt2 : h.size ≤ t2 := q2.elim (fun z => by rw [z]; exact bt1) (fun z => Nat.le_trans (Ext.tr E67 E72).1 z)
    have E84 := Ext.kp (Ext.tr E67 E72) K82 (allS q52 (allS bt1 all0))
    show Run p e below _ T (mkF m 19 #[.val (.ref a)] [.ref x50])
    refine s_aload_n w (hb hby dsyn_19) rfl rfl (pc' := 20) rfl ?_
    refine w_getF w (hw _ (List.mem_of_getElem? (i := 52) rfl)) Via.refl (Fv.ext E84) (hb hby dsyn_20) (pc' := 23) rfl fun T w => ?_
    refine w_virtualN w hEL (y := (⟨"java/lang/StringBuilder", "append", "(Ljava/lang/String;)Ljava/lang/StringBuilder;"⟩ : MethodName)) (y' := (⟨"java/lang/StringBuilder", "append", "(Ljava/lang/String;)Ljava/lang/StringBuilder;"⟩ : MethodName)) (C := "java/lang/StringBuilder") (a := x50) (hw _ (List.mem_of_getElem? (i := 79) rfl)) (hw _ (List.mem_of_getElem? (i := 80) rfl)) (hw _ (List.mem_of_getElem? (i := 82) rfl)) (hw _ (List.mem_of_getElem? (i := 82) rfl)) (hw _ (List.mem_of_getElem? (i := 81) rfl)) (hw _ (List.mem_of_getElem? (i := 63) rfl)) (hw _ (List.mem_of_getElem? (i := 83) rfl)) (by decide) B2.1 (rm_app01 G0 h81 x50 y t2 tv k2_ kv (([] ++ ns) ++ [32]) vs_ B2 (Xv.ext E84) (by first | omega | (simp <;> omega)) (fun z => absurd bt2 (by rw [← z]; exact Nat.not_le.mpr Xv.2.2.2.1.lt))) (allS (List.mem_of_getElem? (i := 0) rfl) all0) (allS (Or.inr r53) (allS (Or.inr bt2) all0)) (argsL := [.ref y]) (rest := []) (lenOf (by decide +kernel : parseMethodDescriptor "(Ljava/lang/String;)Ljava/lang/StringBuilder;" = some ⟨[(.object "java/lang/String")], (some (.object "java/lang/StringBuilder"))⟩) rfl) rfl rfl (hb hby dsyn_23) (by rw [hml]; rfl) (W := 0) (Nat.le_of_eq rfl) (by decide) (by decide) (by decide) (by decide) (pc' := 26) rfl fun u85 N86 T h87 w K88 P89 => ?_
    obtain ⟨rfl, t3, k3_, rfl, q3, B3⟩ := P89
    have bt3 : h.size ≤ t3 := q3.elim (fun z => by rw [z]; exact bt2) (fun z => Nat.le_trans E84.1 z)
    have E90 := Ext.kp E84 K88 (allS q52 (allS bt2 all0))
    show Run p e below _ T (mkF m 26 #[.val (.ref a)] [.ref x50])
    refine w_virtualN w hEL (y := (⟨"java/lang/StringBuilder", "toString", "()Ljava/lang/String;"⟩ : MethodName)) (y' := (⟨"java/lang/StringBuilder", "toString", "()Ljava/lang/String;"⟩ : MethodName)) (C := "java/lang/StringBuilder") (a := x50) (hw _ (List.mem_of_getElem? (i := 127) rfl)) (hw _ (List.mem_of_getElem? (i := 128) rfl)) (hw _ (List.mem_of_getElem? (i := 130) rfl)) (hw _ (List.mem_of_getElem? (i := 130) rfl)) (hw _ (List.mem_of_getElem? (i := 129) rfl)) (hw _ (List.mem_of_getElem? (i := 63) rfl)) (hw _ (List.mem_of_getElem? (i := 131) rfl)) (by decide) B3.1 (rm_tos1 G0 h87 x50 t3 k3_ ((([] ++ ns) ++ [32]) ++ vs_) B3 (by first | omega | (simp <;> omega))) all0 all0 (argsL := []) (rest := []) (lenOf (by decide +kernel : parseMethodDescriptor "()Ljava/lang/String;" = some ⟨[], (some (.object "java/lang/String"))⟩) rfl) rfl rfl (hb hby dsyn_26) (by rw [hml]; rfl) (W := 0) (Nat.le_of_eq rfl) (by decide) (by decide) (by decide) (by decide) (pc' := 29) rfl fun u91 N92 T h93 w K94 P95 => ?_
    obtain ⟨rfl, P96⟩ := P95
    obtain ⟨r0, rfl, S9⟩ := P96
    show Run p e below _ T (mkF m 29 #[.val (.ref a)] [.ref r0])
    exact w_areturn w hEL hs hlk hret rfl rfl (hb hby dsyn_29) (by decide) (by decide) ⟨r0, rfl, by simpa using S9⟩
  · skip
    refine w_new w (hw _ (List.mem_of_getElem? (i := 61) rfl)) (hw _ (List.mem_of_getElem? (i := 62) rfl)) (hw _ (List.mem_of_getElem? (i := 63) rfl)) (hb hby dsyn_0) (pc' := 3) rfl (by decide) (by decide) fun T h97 x98 w E99 q100 r101 A102 D103 => ?_
    have F_value_x98 : Fld Z h97 x98 "java/lang/AbstractStringBuilder" "value" "[B" (.null) := D103 (Or.inl (hw _ (List.mem_of_getElem? (i := 76) rfl))) (ty := (.array .byte)) (by decide)
    have F_coder_x98 : Fld Z h97 x98 "java/lang/AbstractStringBuilder" "coder" "B" (.int 0) := D103 (Or.inl (hw _ (List.mem_of_getElem? (i := 78) rfl))) (ty := .byte) (by decide)
    have F_count_x98 : Fld Z h97 x98 "java/lang/AbstractStringBuilder" "count" "I" (.int 0) := D103 (Or.inl (hw _ (List.mem_of_getElem? (i := 100) rfl))) (ty := .int) (by decide)
    have F_maybeLatin1_x98 : Fld Z h97 x98 "java/lang/AbstractStringBuilder" "maybeLatin1" "Z" (.int 0) := D103 (Or.inl (hw _ (List.mem_of_getElem? (i := 250) rfl))) (ty := .boolean) (by decide)
    refine s_dup w (hb hby dsyn_3) rfl (pc' := 4) rfl ?_
    refine w_specialN w hEL (y := (⟨"java/lang/StringBuilder", "<init>", "()V"⟩ : MethodName)) (a := x98) rfl (hw _ (List.mem_of_getElem? (i := 64) rfl)) (hw _ (List.mem_of_getElem? (i := 65) rfl)) (hw _ (List.mem_of_getElem? (i := 63) rfl)) (hw _ (List.mem_of_getElem? (i := 66) rfl)) (by decide) (rm_sbi G0 h97 x98 _ _ A102 F_value_x98 F_coder_x98 F_count_x98 F_maybeLatin1_x98) all0 (allS (Or.inr r101) all0) (argsL := []) (rest := [.ref x98]) (lenOf (by decide +kernel : parseMethodDescriptor "()V" = some ⟨[], none⟩) rfl) rfl rfl (hb hby dsyn_4) (by rw [hml]; rfl) (W := 1) (Nat.le_of_eq rfl) (by decide) (by decide) (by decide) (by decide) (pc' := 7) rfl fun u104 N105 T h106 w K107 P108 => ?_
    obtain ⟨rfl, t0, k0_, rfl, q0, B0⟩ := P108
    have bt0 : h.size ≤ t0 := Nat.le_trans E99.1 q0
    have E109 := Ext.kp E99 K107 (allS q100 all0)
    show Run p e below _ T (mkF m 7 #[.val (.ref a)] [.ref x98])
    refine s_aload_n w (hb hby dsyn_7) rfl rfl (pc' := 8) rfl ?_
    refine w_getF w (hw _ (List.mem_of_getElem? (i := 50) rfl)) Via.refl (Fn.ext E109) (hb hby dsyn_8) (pc' := 11) rfl fun T w => ?_
    refine w_virtualN w hEL (y := (⟨"java/lang/StringBuilder", "append", "(Ljava/lang/String;)Ljava/lang/StringBuilder;"⟩ : MethodName)) (y' := (⟨"java/lang/StringBuilder", "append", "(Ljava/lang/String;)Ljava/lang/StringBuilder;"⟩ : MethodName)) (C := "java/lang/StringBuilder") (a := x98) (hw _ (List.mem_of_getElem? (i := 79) rfl)) (hw _ (List.mem_of_getElem? (i := 80) rfl)) (hw _ (List.mem_of_getElem? (i := 82) rfl)) (hw _ (List.mem_of_getElem? (i := 82) rfl)) (hw _ (List.mem_of_getElem? (i := 81) rfl)) (hw _ (List.mem_of_getElem? (i := 63) rfl)) (hw _ (List.mem_of_getElem? (i := 83) rfl)) (by decide) B0.1 (rm_app01 G0 h106 x98 x t0 tn k0_ kn [] ns B0 (Xn.ext E109) (by first | omega | (simp <;> omega)) (fun z => absurd bt0 (by rw [← z]; exact Nat.not_le.mpr Xn.2.2.2.1.lt))) (allS (List.mem_of_getElem? (i := 0) rfl) all0) (allS (Or.inr r101) (allS (Or.inr bt0) all0)) (argsL := [.ref x]) (rest := []) (lenOf (by decide +kernel : parseMethodDescriptor "(Ljava/lang/String;)Ljava/lang/StringBuilder;" = some ⟨[(.object "java/lang/String")], (some (.object "java/lang/StringBuilder"))⟩) rfl) rfl rfl (hb hby dsyn_11) (by rw [hml]; rfl) (W := 0) (Nat.le_of_eq rfl) (by decide) (by decide) (by decide) (by decide) (pc' := 14) rfl fun u110 N111 T h112 w K113 P114 => ?_
    obtain ⟨rfl, t1, k1_, rfl, q1, B1⟩ := P114
    have bt1 : h.size ≤ t1 := q1.elim (fun z => by rw [z]; exact bt0) (fun z => Nat.le_trans E109.1 z)
    have E115 := Ext.kp E109 K113 (allS q100 (allS bt0 all0))
    show Run p e below _ T (mkF m 14 #[.val (.ref a)] [.ref x98])
    refine w_ldcS w hEL (text := " ") (hw _ (List.mem_of_getElem? (i := 126) rfl)) hwA (by decide) (vs := [.int 32]) (z := 1) (n := 4) ⟨by decide, by decide⟩ (by decide) rfl (by decide) (by decide) (hb hby dsyn_14) (pc' := 16) rfl (by decide) (by decide) fun T h116 x117 t118 kb119 w E120 A121 C122 V123 K124 N125 => ?_
    have F126 : Str Z h116 x117 [32] := Str.low A121 V123 C122 rfl rfl K124 (by decide) (by decide)
    have Xc : S0 Z h116 x117 t118 kb119 [32] := ⟨A121, V123, C122, K124, (by intro c q; rw [List.mem_singleton.mp q]; unfold Lat; decide), (Nat.le_of_ble_eq_true rfl)⟩
    refine w_virtualN w hEL (y := (⟨"java/lang/StringBuilder", "append", "(Ljava/lang/String;)Ljava/lang/StringBuilder;"⟩ : MethodName)) (y' := (⟨"java/lang/StringBuilder", "append", "(Ljava/lang/String;)Ljava/lang/StringBuilder;"⟩ : MethodName)) (C := "java/lang/StringBuilder") (a := x98) (hw _ (List.mem_of_getElem? (i := 79) rfl)) (hw _ (List.mem_of_getElem? (i := 80) rfl)) (hw _ (List.mem_of_getElem? (i := 82) rfl)) (hw _ (List.mem_of_getElem? (i := 82) rfl)) (hw _ (List.mem_of_getElem? (i := 81) rfl)) (hw _ (List.mem_of_getElem? (i := 63) rfl)) (hw _ (List.mem_of_getElem? (i := 83) rfl)) (by decide) (B1.1.ext E120) (rm_app10 G0 h116 x98 x117 t1 t118 k1_ kb119 ([] ++ ns) [32] (B1.ext E120) Xc (by first | omega | (simp <;> omega)) (fun z => (N125 t1 (List.mem_of_getElem? (i := 0) rfl)).2 z.symm)) (allS (List.mem_of_getElem? (i := 0) rfl) all0) (allS (Or.inr r101) (allS (Or.inr bt1) all0)) (argsL := [.ref x117]) (rest := []) (lenOf (by decide +kernel : parseMethodDescriptor "(Ljava/lang/String;)Ljava/lang/StringBuilder;" = some ⟨[(.object "java/lang/String")], (some (.object "java/lang/StringBuilder"))⟩) rfl) rfl rfl (hb hby dsyn_16) (by rw [hml]; rfl) (W := 0) (Nat.le_of_eq rfl) (by decide) (by decide) (by decide) (by decide) (pc' := 19) rfl fun u127 N128 T h129 w K130 P131 => ?_
    obtain ⟨rfl, t2, k2_, rfl, q2, B2⟩ := P131
    have bt2 : h.size ≤ t2 := q2.elim (fun z => by rw [z]; exact bt1) (fun z => Nat.le_trans (Ext.tr E115 E120).1 z)
    have E132 := Ext.kp (Ext.tr E115 E120) K130 (allS q100 (allS bt1 all0))
    show Run p e below _ T (mkF m 19 #[.val (.ref a)] [.ref x98])
    refine s_aload_n w (hb hby dsyn_19) rfl rfl (pc' := 20) rfl ?_
    refine w_getF w (hw _ (List.mem_of_getElem? (i := 52) rfl)) Via.refl (Fv.ext E132) (hb hby dsyn_20) (pc' := 23) rfl fun T w => ?_
    refine w_virtualN w hEL (y := (⟨"java/lang/StringBuilder", "append", "(Ljava/lang/String;)Ljava/lang/StringBuilder;"⟩ : MethodName)) (y' := (⟨"java/lang/StringBuilder", "append", "(Ljava/lang/String;)Ljava/lang/StringBuilder;"⟩ : MethodName)) (C := "java/lang/StringBuilder") (a := x98) (hw _ (List.mem_of_getElem? (i := 79) rfl)) (hw _ (List.mem_of_getElem? (i := 80) rfl)) (hw _ (List.mem_of_getElem? (i := 82) rfl)) (hw _ (List.mem_of_getElem? (i := 82) rfl)) (hw _ (List.mem_of_getElem? (i := 81) rfl)) (hw _ (List.mem_of_getElem? (i := 63) rfl)) (hw _ (List.mem_of_getElem? (i := 83) rfl)) (by decide) B2.1 (rm_app10 G0 h129 x98 y t2 tv k2_ kv (([] ++ ns) ++ [32]) vs_ B2 (Xv.ext E132) (by first | omega | (simp <;> omega)) (fun z => absurd bt2 (by rw [← z]; exact Nat.not_le.mpr Xv.2.2.2.1.lt))) (allS (List.mem_of_getElem? (i := 0) rfl) all0) (allS (Or.inr r101) (allS (Or.inr bt2) all0)) (argsL := [.ref y]) (rest := []) (lenOf (by decide +kernel : parseMethodDescriptor "(Ljava/lang/String;)Ljava/lang/StringBuilder;" = some ⟨[(.object "java/lang/String")], (some (.object "java/lang/StringBuilder"))⟩) rfl) rfl rfl (hb hby dsyn_23) (by rw [hml]; rfl) (W := 0) (Nat.le_of_eq rfl) (by decide) (by decide) (by decide) (by decide) (pc' := 26) rfl fun u133 N134 T h135 w K136 P137 => ?_
    obtain ⟨rfl, t3, k3_, rfl, q3, B3⟩ := P137
    have bt3 : h.size ≤ t3 := q3.elim (fun z => by rw [z]; exact bt2) (fun z => Nat.le_trans E132.1 z)
    have E138 := Ext.kp E132 K136 (allS q100 (allS bt2 all0))
    show Run p e below _ T (mkF m 26 #[.val (.ref a)] [.ref x98])
    refine w_virtualN w hEL (y := (⟨"java/lang/StringBuilder", "toString", "()Ljava/lang/String;"⟩ : MethodName)) (y' := (⟨"java/lang/StringBuilder", "toString", "()Ljava/lang/String;"⟩ : MethodName)) (C := "java/lang/StringBuilder") (a := x98) (hw _ (List.mem_of_getElem? (i := 127) rfl)) (hw _ (List.mem_of_getElem? (i := 128) rfl)) (hw _ (List.mem_of_getElem? (i := 130) rfl)) (hw _ (List.mem_of_getElem? (i := 130) rfl)) (hw _ (List.mem_of_getElem? (i := 129) rfl)) (hw _ (List.mem_of_getElem? (i := 63) rfl)) (hw _ (List.mem_of_getElem? (i := 131) rfl)) (by decide) B3.1 (rm_tos1 G0 h135 x98 t3 k3_ ((([] ++ ns) ++ [32]) ++ vs_) B3 (by first | omega | (simp <;> omega))) all0 all0 (argsL := []) (rest := []) (lenOf (by decide +kernel : parseMethodDescriptor "()Ljava/lang/String;" = some ⟨[], (some (.object "java/lang/String"))⟩) rfl) rfl rfl (hb hby dsyn_26) (by rw [hml]; rfl) (W := 0) (Nat.le_of_eq rfl) (by decide) (by decide) (by decide) (by decide) (pc' := 29) rfl fun u139 N140 T h141 w K142 P143 => ?_
    obtain ⟨rfl, P144⟩ := P143
    obtain ⟨r0, rfl, S9⟩ := P144
    show Run p e below _ T (mkF m 29 #[.val (.ref a)] [.ref r0])
    exact w_areturn w hEL hs hlk hret rfl rfl (hb hby dsyn_29) (by decide) (by decide) ⟨r0, rfl, by simpa using S9⟩
  · skip
    refine w_new w (hw _ (List.mem_of_getElem? (i := 61) rfl)) (hw _ (List.mem_of_getElem? (i := 62) rfl)) (hw _ (List.mem_of_getElem? (i := 63) rfl)) (hb hby dsyn_0) (pc' := 3) rfl (by decide) (by decide) fun T h145 x146 w E147 q148 r149 A150 D151 => ?_
    have F_value_x146 : Fld Z h145 x146 "java/lang/AbstractStringBuilder" "value" "[B" (.null) := D151 (Or.inl (hw _ (List.mem_of_getElem? (i := 76) rfl))) (ty := (.array .byte)) (by decide)
    have F_coder_x146 : Fld Z h145 x146 "java/lang/AbstractStringBuilder" "coder" "B" (.int 0) := D151 (Or.inl (hw _ (List.mem_of_getElem? (i := 78) rfl))) (ty := .byte) (by decide)
    have F_count_x146 : Fld Z h145 x146 "java/lang/AbstractStringBuilder" "count" "I" (.int 0) := D151 (Or.inl (hw _ (List.mem_of_getElem? (i := 100) rfl))) (ty := .int) (by decide)
    have F_maybeLatin1_x146 : Fld Z h145 x146 "java/lang/AbstractStringBuilder" "maybeLatin1" "Z" (.int 0) := D151 (Or.inl (hw _ (List.mem_of_getElem? (i := 250) rfl))) (ty := .boolean) (by decide)
    refine s_dup w (hb hby dsyn_3) rfl (pc' := 4) rfl ?_
    refine w_specialN w hEL (y := (⟨"java/lang/StringBuilder", "<init>", "()V"⟩ : MethodName)) (a := x146) rfl (hw _ (List.mem_of_getElem? (i := 64) rfl)) (hw _ (List.mem_of_getElem? (i := 65) rfl)) (hw _ (List.mem_of_getElem? (i := 63) rfl)) (hw _ (List.mem_of_getElem? (i := 66) rfl)) (by decide) (rm_sbi G0 h145 x146 _ _ A150 F_value_x146 F_coder_x146 F_count_x146 F_maybeLatin1_x146) all0 (allS (Or.inr r149) all0) (argsL := []) (rest := [.ref x146]) (lenOf (by decide +kernel : parseMethodDescriptor "()V" = some ⟨[], none⟩) rfl) rfl rfl (hb hby dsyn_4) (by rw [hml]; rfl) (W := 1) (Nat.le_of_eq rfl) (by decide) (by decide) (by decide) (by decide) (pc' := 7) rfl fun u152 N153 T h154 w K155 P156 => ?_
    obtain ⟨rfl, t0, k0_, rfl, q0, B0⟩ := P156
    have bt0 : h.size ≤ t0 := Nat.le_trans E147.1 q0
    have E157 := Ext.kp E147 K155 (allS q148 all0)
    show Run p e below _ T (mkF m 7 #[.val (.ref a)] [.ref x146])
    refine s_aload_n w (hb hby dsyn_7) rfl rfl (pc' := 8) rfl ?_
    refine w_getF w (hw _ (List.mem_of_getElem? (i := 50) rfl)) Via.refl (Fn.ext E157) (hb hby dsyn_8) (pc' := 11) rfl fun T w => ?_
    refine w_virtualN w hEL (y := (⟨"java/lang/StringBuilder", "append", "(Ljava/lang/String;)Ljava/lang/StringBuilder;"⟩ : MethodName)) (y' := (⟨"java/lang/StringBuilder", "append", "(Ljava/lang/String;)Ljava/lang/StringBuilder;"⟩ : MethodName)) (C := "java/lang/StringBuilder") (a := x146) (hw _ (List.mem_of_getElem? (i := 79) rfl)) (hw _ (List.mem_of_getElem? (i := 80) rfl)) (hw _ (List.mem_of_getElem? (i := 82) rfl)) (hw _ (List.mem_of_getElem? (i := 82) rfl)) (hw _ (List.mem_of_getElem? (i := 81) rfl)) (hw _ (List.mem_of_getElem? (i := 63) rfl)) (hw _ (List.mem_of_getElem? (i := 83) rfl)) (by decide) B0.1 (rm_app01 G0 h154 x146 x t0 tn k0_ kn [] ns B0 (Xn.ext E157) (by first | omega | (simp <;> omega)) (fun z => absurd bt0 (by rw [← z]; exact Nat.not_le.mpr Xn.2.2.2.1.lt))) (allS (List.mem_of_getElem? (i := 0) rfl) all0) (allS (Or.inr r149) (allS (Or.inr bt0) all0)) (argsL := [.ref x]) (rest := []) (lenOf (by decide +kernel : parseMethodDescriptor "(Ljava/lang/String;)Ljava/lang/StringBuilder;" = some ⟨[(.object "java/lang/String")], (some (.object "java/lang/StringBuilder"))⟩) rfl) rfl rfl (hb hby dsyn_11) (by rw [hml]; rfl) (W := 0) (Nat.le_of_eq rfl) (by decide) (by decide) (by decide) (by decide) (pc' := 14) rfl fun u158 N159 T h160 w K161 P162 => ?_
    obtain ⟨rfl, t1, k1_, rfl, q1, B1⟩ := P162
    have bt1 : h.size ≤ t1 := q1.elim (fun z => by rw [z]; exact bt0) (fun z => Nat.le_trans E157.1 z)
    have E163 := Ext.kp E157 K161 (allS q148 (allS bt0 all0))
    show Run p e below _ T (mkF m 14 #[.val (.ref a)] [.ref x146])
    refine w_ldcS w hEL (text := " ") (hw _ (List.mem_of_getElem? (i := 126) rfl)) hwA (by decide) (vs := [.int 32]) (z := 1) (n := 4) ⟨by decide, by decide⟩ (by decide) rfl (by decide) (by decide) (hb hby dsyn_14) (pc' := 16) rfl (by decide) (by decide) fun T h164 x165 t166 kb167 w E168 A169 C170 V171 K172 N173 => ?_
    have F174 : Str Z h164 x165 [32] := Str.low A169 V171 C170 rfl rfl K172 (by decide) (by decide)
    have Xc : S0 Z h164 x165 t166 kb167 [32] := ⟨A169, V171, C170, K172, (by intro c q; rw [List.mem_singleton.mp q]; unfold Lat; decide), (Nat.le_of_ble_eq_true rfl)⟩
    refine w_virtualN w hEL (y := (⟨"java/lang/StringBuilder", "append", "(Ljava/lang/String;)Ljava/lang/StringBuilder;"⟩ : MethodName)) (y' := (⟨"java/lang/StringBuilder", "append", "(Ljava/lang/String;)Ljava/lang/StringBuilder;"⟩ : MethodName)) (C := "java/lang/StringBuilder") (a := x146) (hw _ (List.mem_of_getElem? (i := 79) rfl)) (hw _ (List.mem_of_getElem? (i := 80) rfl)) (hw _ (List.mem_of_getElem? (i := 82) rfl)) (hw _ (List.mem_of_getElem? (i := 82) rfl)) (hw _ (List.mem_of_getElem? (i := 81) rfl)) (hw _ (List.mem_of_getElem? (i := 63) rfl)) (hw _ (List.mem_of_getElem? (i := 83) rfl)) (by decide) (B1.1.ext E168) (rm_app10 G0 h164 x146 x165 t1 t166 k1_ kb167 ([] ++ ns) [32] (B1.ext E168) Xc (by first | omega | (simp <;> omega)) (fun z => (N173 t1 (List.mem_of_getElem? (i := 0) rfl)).2 z.symm)) (allS (List.mem_of_getElem? (i := 0) rfl) all0) (allS (Or.inr r149) (allS (Or.inr bt1) all0)) (argsL := [.ref x165]) (rest := []) (lenOf (by decide +kernel : parseMethodDescriptor "(Ljava/lang/String;)Ljava/lang/StringBuilder;" = some ⟨[(.object "java/lang/String")], (some (.object "java/lang/StringBuilder"))⟩) rfl) rfl rfl (hb hby dsyn_16) (by rw [hml]; rfl) (W := 0) (Nat.le_of_eq rfl) (by decide) (by decide) (by decide) (by decide) (pc' := 19) rfl fun u175 N176 T h177 w K178 P179 => ?_
    obtain ⟨rfl, t2, k2_, rfl, q2, B2⟩ := P179
    have bt2 : h.size ≤ t2 := q2.elim (fun z => by rw [z]; exact bt1) (fun z => Nat.le_trans (Ext.tr E163 E168).1 z)
    have E180 := Ext.kp (Ext.tr E163 E168) K178 (allS q148 (allS bt1 all0))
    show Run p e below _ T (mkF m 19 #[.val (.ref a)] [.ref x146])
    refine s_aload_n w (hb hby dsyn_19) rfl rfl (pc' := 20) rfl ?_
    refine w_getF w (hw _ (List.mem_of_getElem? (i := 52) rfl)) Via.refl (Fv.ext E180) (hb hby dsyn_20) (pc' := 23) rfl fun T w => ?_
    refine w_virtualN w hEL (y := (⟨"java/lang/StringBuilder", "append", "(Ljava/lang/String;)Ljava/lang/StringBuilder;"⟩ : MethodName)) (y' := (⟨"java/lang/StringBuilder", "append", "(Ljava/lang/String;)Ljava/lang/StringBuilder;"⟩ : MethodName)) (C := "java/lang/StringBuilder") (a := x146) (hw _ (List.mem_of_getElem? (i := 79) rfl)) (hw _ (List.mem_of_getElem? (i := 80) rfl)) (hw _ (List.mem_of_getElem? (i := 82) rfl)) (hw _ (List.mem_of_getElem? (i := 82) rfl)) (hw _ (List.mem_of_getElem? (i := 81) rfl)) (hw _ (List.mem_of_getElem? (i := 63) rfl)) (hw _ (List.mem_of_getElem? (i := 83) rfl)) (by decide) B2.1 (rm_app11 G0 h177 x146 y t2 tv k2_ kv (([] ++ ns) ++ [32]) vs_ B2 (Xv.ext E180) (by first | omega | (simp <;> omega)) (fun z => absurd bt2 (by rw [← z]; exact Nat.not_le.mpr Xv.2.2.2.1.lt))) (allS (List.mem_of_getElem? (i := 0) rfl) all0) (allS (Or.inr r149) (allS (Or.inr bt2) all0)) (argsL := [.ref y]) (rest := []) (lenOf (by decide +kernel : parseMethodDescriptor "(Ljava/lang/String;)Ljava/lang/StringBuilder;" = some ⟨[(.object "java/lang/String")], (some (.object "java/lang/StringBuilder"))⟩) rfl) rfl rfl (hb hby dsyn_23) (by rw [hml]; rfl) (W := 0) (Nat.le_of_eq rfl) (by decide) (by decide) (by decide) (by decide) (pc' := 26) rfl fun u181 N182 T h183 w K184 P185 => ?_
    obtain ⟨rfl, t3, k3_, rfl, q3, B3⟩ := P185
    have bt3 : h.size ≤ t3 := q3.elim (fun z => by rw [z]; exact bt2) (fun z => Nat.le_trans E180.1 z)
    have E186 := Ext.kp E180 K184 (allS q148 (allS bt2 all0))
    show Run p e below _ T (mkF m 26 #[.val (.ref a)] [.ref x146])
    refine w_virtualN w hEL (y := (⟨"java/lang/StringBuilder", "toString", "()Ljava/lang/String;"⟩ : MethodName)) (y' := (⟨"java/lang/StringBuilder", "toString", "()Ljava/lang/String;"⟩ : MethodName)) (C := "java/lang/StringBuilder") (a := x146) (hw _ (List.mem_of_getElem? (i := 127) rfl)) (hw _ (List.mem_of_getElem? (i := 128) rfl)) (hw _ (List.mem_of_getElem? (i := 130) rfl)) (hw _ (List.mem_of_getElem? (i := 130) rfl)) (hw _ (List.mem_of_getElem? (i := 129) rfl)) (hw _ (List.mem_of_getElem? (i := 63) rfl)) (hw _ (List.mem_of_getElem? (i := 131) rfl)) (by decide) B3.1 (rm_tos1 G0 h183 x146 t3 k3_ ((([] ++ ns) ++ [32]) ++ vs_) B3 (by first | omega | (simp <;> omega))) all0 all0 (argsL := []) (rest := []) (lenOf (by decide +kernel : parseMethodDescriptor "()Ljava/lang/String;" = some ⟨[], (some (.object "java/lang/String"))⟩) rfl) rfl rfl (hb hby dsyn_26) (by rw [hml]; rfl) (W := 0) (Nat.le_of_eq rfl) (by decide) (by decide) (by decide) (by decide) (pc' := 29) rfl fun u187 N188 T h189 w K190 P191 => ?_
    obtain ⟨rfl, P192⟩ := P191
    obtain ⟨r0, rfl, S9⟩ := P192
    show Run p e below _ T (mkF m 29 #[.val (.ref a)] [.ref r0])
    exact w_areturn w hEL hs hlk hret rfl rfl (hb hby dsyn_29) (by decide) (by decide) ⟨r0, rfl, by simpa using S9⟩
def expE (i ln n0 n1 v0 v1 : Int32) : Int32 := if i < ln then (if i = 0 then n0 else n1) else if i = ln then 32 else if i - ln - 1 = 0 then v0 else v1
theorem strM_len (n a b : Int32) : (strM n a b).length ≤ 2 := by unfold strM; split; simp; split <;> simp
theorem len_all {ln lv n0 n1 v0 v1 : Int32} (r1 : ln = 0 ∨ ln = 1 ∨ ln = 2) (r2 : lv = 0 ∨ lv = 1 ∨ lv = 2) : Int32.ofNat (strM ln n0 n1 ++ 32 :: strM lv v0 v1).length = ln + 1 + lv := by
  rcases r1 with rfl | rfl | rfl <;> rcases r2 with rfl | rfl | rfl <;> rfl
theorem exp_all {ln lv n0 n1 v0 v1 : Int32} (r1 : ln = 0 ∨ ln = 1 ∨ ln = 2) (r2 : lv = 0 ∨ lv = 1 ∨ lv = 2) : ∀ i : Nat, i < (strM ln n0 n1 ++ 32 :: strM lv v0 v1).length → (strM ln n0 n1 ++ 32 :: strM lv v0 v1).getD i 0 = expE (Int32.ofNat i) ln n0 n1 v0 v1 := by
  intro i hi
  have h5 : i < 5 := by
    have a := strM_len ln n0 n1
    have b := strM_len lv v0 v1
    simp at hi; omega
  rcases r1 with rfl | rfl | rfl <;> rcases r2 with rfl | rfl | rfl <;> (match i, h5 with
    | 0, _ => first | rfl | exact absurd hi (by decide) | simp [strM] at hi
    | 1, _ => first | rfl | exact absurd hi (by decide) | simp [strM] at hi
    | 2, _ => first | rfl | exact absurd hi (by decide) | simp [strM] at hi
    | 3, _ => first | rfl | exact absurd hi (by decide) | simp [strM] at hi
    | 4, _ => first | rfl | exact absurd hi (by decide) | simp [strM] at hi)
theorem dok_0 : decode method_3_code 0 = .ok (.iload_n 1, 1) := by decide +kernel
theorem dok_1 : decode method_3_code 1 = .ok (.aload_n 0, 1) := by decide +kernel
theorem dok_2 : decode method_3_code 2 = .ok (.invokevirtual 18, 3) := by decide +kernel
theorem dok_5 : decode method_3_code 5 = .ok (.if_icmp .lt 5, 3) := by decide +kernel
theorem dok_8 : decode method_3_code 8 = .ok (.iconst 1, 1) := by decide +kernel
theorem dok_9 : decode method_3_code 9 = .ok (.ireturn, 1) := by decide +kernel
theorem dok_10 : decode method_3_code 10 = .ok (.iload_n 1, 1) := by decide +kernel
theorem dok_11 : decode method_3_code 11 = .ok (.iload_n 2, 1) := by decide +kernel
theorem dok_12 : decode method_3_code 12 = .ok (.if_icmp .ge 18, 3) := by decide +kernel
theorem dok_15 : decode method_3_code 15 = .ok (.iload_n 1, 1) := by decide +kernel
theorem dok_16 : decode method_3_code 16 = .ok (.ifCond .ne 7, 3) := by decide +kernel
theorem dok_19 : decode method_3_code 19 = .ok (.iload_n 3, 1) := by decide +kernel
theorem dok_20 : decode method_3_code 20 = .ok (.goto 5, 3) := by decide +kernel
theorem dok_23 : decode method_3_code 23 = .ok (.iload 4, 2) := by decide +kernel
theorem dok_25 : decode method_3_code 25 = .ok (.istore 7, 2) := by decide +kernel
theorem dok_27 : decode method_3_code 27 = .ok (.goto 36, 3) := by decide +kernel
theorem dok_30 : decode method_3_code 30 = .ok (.iload_n 1, 1) := by decide +kernel
theorem dok_31 : decode method_3_code 31 = .ok (.iload_n 2, 1) := by decide +kernel
theorem dok_32 : decode method_3_code 32 = .ok (.if_icmp .ne 10, 3) := by decide +kernel
theorem dok_35 : decode method_3_code 35 = .ok (.bipush 32, 2) := by decide +kernel
theorem dok_37 : decode method_3_code 37 = .ok (.istore 7, 2) := by decide +kernel
theorem dok_39 : decode method_3_code 39 = .ok (.goto 24, 3) := by decide +kernel
theorem dok_42 : decode method_3_code 42 = .ok (.iload_n 1, 1) := by decide +kernel
theorem dok_43 : decode method_3_code 43 = .ok (.iload_n 2, 1) := by decide +kernel
theorem dok_44 : decode method_3_code 44 = .ok (.isub, 1) := by decide +kernel
theorem dok_45 : decode method_3_code 45 = .ok (.iconst 1, 1) := by decide +kernel
theorem dok_46 : decode method_3_code 46 = .ok (.isub, 1) := by decide +kernel
theorem dok_47 : decode method_3_code 47 = .ok (.istore 8, 2) := by decide +kernel
theorem dok_49 : decode method_3_code 49 = .ok (.iload 8, 2) := by decide +kernel
theorem dok_51 : decode method_3_code 51 = .ok (.ifCond .ne 8, 3) := by decide +kernel
theorem dok_54 : decode method_3_code 54 = .ok (.iload 5, 2) := by decide +kernel
theorem dok_56 : decode method_3_code 56 = .ok (.goto 5, 3) := by decide +kernel
theorem dok_59 : decode method_3_code 59 = .ok (.iload 6, 2) := by decide +kernel
theorem dok_61 : decode method_3_code 61 = .ok (.istore 7, 2) := by decide +kernel
theorem dok_63 : decode method_3_code 63 = .ok (.aload_n 0, 1) := by decide +kernel
theorem dok_64 : decode method_3_code 64 = .ok (.iload_n 1, 1) := by decide +kernel
theorem dok_65 : decode method_3_code 65 = .ok (.invokevirtual 22, 3) := by decide +kernel
theorem dok_68 : decode method_3_code 68 = .ok (.iload 7, 2) := by decide +kernel
theorem dok_70 : decode method_3_code 70 = .ok (.if_icmp .ne 7, 3) := by decide +kernel
theorem dok_73 : decode method_3_code 73 = .ok (.iconst 1, 1) := by decide +kernel
theorem dok_74 : decode method_3_code 74 = .ok (.goto 4, 3) := by decide +kernel
theorem dok_77 : decode method_3_code 77 = .ok (.iconst 0, 1) := by decide +kernel
theorem dok_78 : decode method_3_code 78 = .ok (.ireturn, 1) := by decide +kernel
theorem ef_ok (m : MethodId) (r : Addr) (I0 : Int32) (ln : Int32) (n0 : Int32) (n1 : Int32) (v0 : Int32) (v1 : Int32) : entryFrame m #[.ref r, .int I0, .int ln, .int n0, .int n1, .int v0, .int v1] 9 = mkF m 0 #[.val (.ref r), .val (.int I0), .val (.int ln), .val (.int n0), .val (.int n1), .val (.int v0), .val (.int v1), .unset, .unset] [] := by first | (simp [entryFrame, mkF, argsToLocals, Value.category]; done) | rfl
set_option maxRecDepth 65536 in
set_option maxHeartbeats 40000000 in
theorem rm_ok {l : Launch} {Z : State} {a0 : Array Value} {zc : Int32} {fm : Value} (G : Gl Z a0 zc fm) (h : Heap) (r : Addr) (I0 : Int32) (ln : Int32) (n0 : Int32) (n1 : Int32) (v0 : Int32) (v1 : Int32) (i : Nat) (cs : List Int32) (hI : I0 = Int32.ofNat i) (hi4 : i ≤ 4) (hl : cs.length ≤ 8) (Sr : Str Z h r cs) (hE : ∀ i : Nat, i < cs.length → cs.getD i 0 = expE (Int32.ofNat i) ln n0 n1 v0 v1) :
    Met l Z consts_1 (⟨"com/example/tuikuan/tuikuan/OptionSynopsisPinLaw", "ok", "(Ljava/lang/String;IICCCC)Z"⟩ : MethodName) method_3_code 9 (some .boolean) ({ frames := 5, cells := 0, slots := 0, locals := 66 } : Room) #[.ref r, .int I0, .int ln, .int n0, .int n1, .int v0, .int v1] h [] [] (fun v h' => v = some (.int 1) ∧ h = h') := by
  have G0 := G
  obtain ⟨hw, hEL, SC, hz, SF, hfm, SA, SH, SL⟩ := G
  have hw1 : ∀ d ∈ StrChars.Road.words, d.before a0 Z = true := fun d q => hw d (sub1 d q)
  have hwA : ∀ d ∈ Bundle.stringAtoms, d.before a0 Z = true := fun d q => hw d (subA d q)
  refine Met.of (plainFor_of_name pn_7) ?_
  intro p e s m below meth c T hnm hret hlk hby hml hs w
  have hZ0 := w.old
  refine Run.cast (ef_ok m r I0 ln n0 n1 v0 v1) ?_
  have hwL : ∀ d ∈ StrChars.Road.wordsLen, d.before a0 Z = true := fun d q => hw d (subL d q)
  refine s_iload_n w (hb hby dok_0) rfl (pc' := 1) rfl ?_
  refine s_aload_n w (hb hby dok_1) rfl rfl (pc' := 2) rfl ?_
  obtain ⟨XE, Xt, Xkb, Xcd, XN, Xvs, Xq1, Xq2, Xq3, Xq4, Xq5, Xq6⟩ := id Sr
  refine w_virtB w (y := Len.yN) (y' := Len.yN) (C := ST) (hw _ (List.mem_of_getElem? (i := 172) rfl)) (hw _ (List.mem_of_getElem? (i := 90) rfl)) (hw _ (List.mem_of_getElem? (i := 92) rfl)) (hw _ (List.mem_of_getElem? (i := 92) rfl)) (hw _ (List.mem_of_getElem? (i := 91) rfl)) (by decide) XE (Pv := fun v => v = some (.int (Int32.ofNat (cs).length))) (as' := #[.ref r]) (W := 1) (fun vm0 hZ => StrChars.Road.lenW hZ hwL (hw _ (List.mem_of_getElem? (i := 6) rfl)) XE Xq1 Xq2 Xq3 Xq4 Xq5 (SC.ext w.old) hz Xq6 (by decide) (by decide)) (argsL := []) (rest := [.int I0]) (lenOf (by decide +kernel : parseMethodDescriptor "()I" = some ⟨[], (some .int)⟩) rfl) rfl rfl (hb hby dok_2) (by rw [hml]; rfl) (Nat.le_of_eq rfl) (by decide) (by decide) (pc' := 5) rfl fun u1 T w P2 => ?_
  obtain rfl := P2
  show Run p e below _ T (mkF m 5 #[.val (.ref r), .val (.int I0), .val (.int ln), .val (.int n0), .val (.int n1), .val (.int v0), .val (.int v1), .unset, .unset] [.int (Int32.ofNat (cs).length), .int I0])
  refine s_icmp_lt w (hb hby dok_5) (by decide) (pc1 := 8) rfl (pc2 := 10) rfl (fun ct3 => ?_) (fun ct3 => ?_)
  · -- ¬ (I0 < (Int32.ofNat (cs).length))
    refine s_iconst w (hb hby dok_8) (v := 1) rfl (pc' := 9) rfl ?_
    exact w_ireturn w hEL hs hlk hret rfl (Or.inr (Or.inl rfl)) (hb hby dok_9) (by decide) (by decide) ⟨rfl, rfl⟩
  · -- I0 < (Int32.ofNat (cs).length)
    refine s_iload_n w (hb hby dok_10) rfl (pc' := 11) rfl ?_
    refine s_iload_n w (hb hby dok_11) rfl (pc' := 12) rfl ?_
    refine s_icmp_ge w (hb hby dok_12) (by decide) (pc1 := 15) rfl (pc2 := 30) rfl (fun ct4 => ?_) (fun ct4 => ?_)
    · -- I0 < ln
      refine s_iload_n w (hb hby dok_15) rfl (pc' := 16) rfl ?_
      refine s_if_ne w (hb hby dok_16) (by decide) (pc1 := 19) rfl (pc2 := 23) rfl (fun ct5 => ?_) (fun ct5 => ?_)
      · -- I0 = 0
        refine s_iload_n w (hb hby dok_19) rfl (pc' := 20) rfl ?_
        refine s_goto w (hb hby dok_20) (by decide) (pc' := 25) rfl ?_
        refine s_istore w #[.val (.ref r), .val (.int I0), .val (.int ln), .val (.int n0), .val (.int n1), .val (.int v0), .val (.int v1), .val (.int n0), .unset] (hb hby dok_25) rfl (pc' := 27) rfl ?_
        refine s_goto w (hb hby dok_27) (by decide) (pc' := 63) rfl ?_
        refine s_aload_n w (hb hby dok_63) rfl rfl (pc' := 64) rfl ?_
        refine s_iload_n w (hb hby dok_64) rfl (pc' := 65) rfl ?_
        have hi : i < cs.length := (ofNat_cmp (by omega) (by omega)).mp (by rw [← hI]; exact ct3)
        refine w_virtualN w hEL (y := (⟨"java/lang/String", "charAt", "(I)C"⟩ : MethodName)) (y' := (⟨"java/lang/String", "charAt", "(I)C"⟩ : MethodName)) (C := "java/lang/String") (a := r) (hw _ (List.mem_of_getElem? (i := 176) rfl)) (hw _ (List.mem_of_getElem? (i := 177) rfl)) (hw _ (List.mem_of_getElem? (i := 179) rfl)) (hw _ (List.mem_of_getElem? (i := 179) rfl)) (hw _ (List.mem_of_getElem? (i := 178) rfl)) (hw _ (List.mem_of_getElem? (i := 7) rfl)) (hw _ (List.mem_of_getElem? (i := 180) rfl)) (by decide) Sr.1 (rm_cha G0 h r I0 i cs hI hi hl Sr) all0 all0 (argsL := [.int I0]) (rest := []) (lenOf (by decide +kernel : parseMethodDescriptor "(I)C" = some ⟨[.int], (some .char)⟩) rfl) rfl rfl (hb hby dok_65) (by rw [hml]; rfl) (W := 0) (Nat.le_of_eq rfl) (by decide) (by decide) (by decide) (by decide) (pc' := 68) rfl fun u6 N7 T h8 w K9 P10 => ?_
        obtain ⟨rfl, P11⟩ := P10
        obtain ⟨rfl, rfl⟩ := P11
        show Run p e below _ T (mkF m 68 #[.val (.ref r), .val (.int I0), .val (.int ln), .val (.int n0), .val (.int n1), .val (.int v0), .val (.int v1), .val (.int n0), .unset] [.int (cs.getD i 0)])
        refine s_iload w (hb hby dok_68) rfl (pc' := 70) rfl ?_
        refine s_icmp_ne w (hb hby dok_70) (by decide) (pc1 := 73) rfl (pc2 := 77) rfl (fun ct12 => ?_) (fun ct12 => ?_)
        · -- (cs.getD i 0) = n0
          refine s_iconst w (hb hby dok_73) (v := 1) rfl (pc' := 74) rfl ?_
          refine s_goto w (hb hby dok_74) (by decide) (pc' := 78) rfl ?_
          exact w_ireturn w hEL hs hlk hret rfl (Or.inr (Or.inl rfl)) (hb hby dok_78) (by decide) (by decide) ⟨rfl, rfl⟩
        · -- ¬ ((cs.getD i 0) = n0)
          refine s_iconst w (hb hby dok_77) (v := 0) rfl (pc' := 78) rfl ?_
          exact absurd (by rw [hE i hi, ← hI]; unfold expE; rw [if_pos ct4, if_pos ct5]) ct12
      · -- ¬ (I0 = 0)
        refine s_iload w (hb hby dok_23) rfl (pc' := 25) rfl ?_
        refine s_istore w #[.val (.ref r), .val (.int I0), .val (.int ln), .val (.int n0), .val (.int n1), .val (.int v0), .val (.int v1), .val (.int n1), .unset] (hb hby dok_25) rfl (pc' := 27) rfl ?_
        refine s_goto w (hb hby dok_27) (by decide) (pc' := 63) rfl ?_
        refine s_aload_n w (hb hby dok_63) rfl rfl (pc' := 64) rfl ?_
        refine s_iload_n w (hb hby dok_64) rfl (pc' := 65) rfl ?_
        have hi : i < cs.length := (ofNat_cmp (by omega) (by omega)).mp (by rw [← hI]; exact ct3)
        refine w_virtualN w hEL (y := (⟨"java/lang/String", "charAt", "(I)C"⟩ : MethodName)) (y' := (⟨"java/lang/String", "charAt", "(I)C"⟩ : MethodName)) (C := "java/lang/String") (a := r) (hw _ (List.mem_of_getElem? (i := 176) rfl)) (hw _ (List.mem_of_getElem? (i := 177) rfl)) (hw _ (List.mem_of_getElem? (i := 179) rfl)) (hw _ (List.mem_of_getElem? (i := 179) rfl)) (hw _ (List.mem_of_getElem? (i := 178) rfl)) (hw _ (List.mem_of_getElem? (i := 7) rfl)) (hw _ (List.mem_of_getElem? (i := 180) rfl)) (by decide) Sr.1 (rm_cha G0 h r I0 i cs hI hi hl Sr) all0 all0 (argsL := [.int I0]) (rest := []) (lenOf (by decide +kernel : parseMethodDescriptor "(I)C" = some ⟨[.int], (some .char)⟩) rfl) rfl rfl (hb hby dok_65) (by rw [hml]; rfl) (W := 0) (Nat.le_of_eq rfl) (by decide) (by decide) (by decide) (by decide) (pc' := 68) rfl fun u13 N14 T h15 w K16 P17 => ?_
        obtain ⟨rfl, P18⟩ := P17
        obtain ⟨rfl, rfl⟩ := P18
        show Run p e below _ T (mkF m 68 #[.val (.ref r), .val (.int I0), .val (.int ln), .val (.int n0), .val (.int n1), .val (.int v0), .val (.int v1), .val (.int n1), .unset] [.int (cs.getD i 0)])
        refine s_iload w (hb hby dok_68) rfl (pc' := 70) rfl ?_
        refine s_icmp_ne w (hb hby dok_70) (by decide) (pc1 := 73) rfl (pc2 := 77) rfl (fun ct19 => ?_) (fun ct19 => ?_)
        · -- (cs.getD i 0) = n1
          refine s_iconst w (hb hby dok_73) (v := 1) rfl (pc' := 74) rfl ?_
          refine s_goto w (hb hby dok_74) (by decide) (pc' := 78) rfl ?_
          exact w_ireturn w hEL hs hlk hret rfl (Or.inr (Or.inl rfl)) (hb hby dok_78) (by decide) (by decide) ⟨rfl, rfl⟩
        · -- ¬ ((cs.getD i 0) = n1)
          refine s_iconst w (hb hby dok_77) (v := 0) rfl (pc' := 78) rfl ?_
          exact absurd (by rw [hE i hi, ← hI]; unfold expE; rw [if_pos ct4, if_neg ct5]) ct19
    · -- ¬ (I0 < ln)
      refine s_iload_n w (hb hby dok_30) rfl (pc' := 31) rfl ?_
      refine s_iload_n w (hb hby dok_31) rfl (pc' := 32) rfl ?_
      refine s_icmp_ne w (hb hby dok_32) (by decide) (pc1 := 35) rfl (pc2 := 42) rfl (fun ct20 => ?_) (fun ct20 => ?_)
      · -- I0 = ln
        refine s_bipush w (hb hby dok_35) (v := 32) rfl (pc' := 37) rfl ?_
        refine s_istore w #[.val (.ref r), .val (.int I0), .val (.int ln), .val (.int n0), .val (.int n1), .val (.int v0), .val (.int v1), .val (.int 32), .unset] (hb hby dok_37) rfl (pc' := 39) rfl ?_
        refine s_goto w (hb hby dok_39) (by decide) (pc' := 63) rfl ?_
        refine s_aload_n w (hb hby dok_63) rfl rfl (pc' := 64) rfl ?_
        refine s_iload_n w (hb hby dok_64) rfl (pc' := 65) rfl ?_
        have hi : i < cs.length := (ofNat_cmp (by omega) (by omega)).mp (by rw [← hI]; exact ct3)
        refine w_virtualN w hEL (y := (⟨"java/lang/String", "charAt", "(I)C"⟩ : MethodName)) (y' := (⟨"java/lang/String", "charAt", "(I)C"⟩ : MethodName)) (C := "java/lang/String") (a := r) (hw _ (List.mem_of_getElem? (i := 176) rfl)) (hw _ (List.mem_of_getElem? (i := 177) rfl)) (hw _ (List.mem_of_getElem? (i := 179) rfl)) (hw _ (List.mem_of_getElem? (i := 179) rfl)) (hw _ (List.mem_of_getElem? (i := 178) rfl)) (hw _ (List.mem_of_getElem? (i := 7) rfl)) (hw _ (List.mem_of_getElem? (i := 180) rfl)) (by decide) Sr.1 (rm_cha G0 h r I0 i cs hI hi hl Sr) all0 all0 (argsL := [.int I0]) (rest := []) (lenOf (by decide +kernel : parseMethodDescriptor "(I)C" = some ⟨[.int], (some .char)⟩) rfl) rfl rfl (hb hby dok_65) (by rw [hml]; rfl) (W := 0) (Nat.le_of_eq rfl) (by decide) (by decide) (by decide) (by decide) (pc' := 68) rfl fun u21 N22 T h23 w K24 P25 => ?_
        obtain ⟨rfl, P26⟩ := P25
        obtain ⟨rfl, rfl⟩ := P26
        show Run p e below _ T (mkF m 68 #[.val (.ref r), .val (.int I0), .val (.int ln), .val (.int n0), .val (.int n1), .val (.int v0), .val (.int v1), .val (.int 32), .unset] [.int (cs.getD i 0)])
        refine s_iload w (hb hby dok_68) rfl (pc' := 70) rfl ?_
        refine s_icmp_ne w (hb hby dok_70) (by decide) (pc1 := 73) rfl (pc2 := 77) rfl (fun ct27 => ?_) (fun ct27 => ?_)
        · -- (cs.getD i 0) = 32
          refine s_iconst w (hb hby dok_73) (v := 1) rfl (pc' := 74) rfl ?_
          refine s_goto w (hb hby dok_74) (by decide) (pc' := 78) rfl ?_
          exact w_ireturn w hEL hs hlk hret rfl (Or.inr (Or.inl rfl)) (hb hby dok_78) (by decide) (by decide) ⟨rfl, rfl⟩
        · -- ¬ ((cs.getD i 0) = 32)
          refine s_iconst w (hb hby dok_77) (v := 0) rfl (pc' := 78) rfl ?_
          exact absurd (by rw [hE i hi, ← hI]; unfold expE; rw [if_neg ct4, if_pos ct20]) ct27
      · -- ¬ (I0 = ln)
        refine s_iload_n w (hb hby dok_42) rfl (pc' := 43) rfl ?_
        refine s_iload_n w (hb hby dok_43) rfl (pc' := 44) rfl ?_
        refine s_isub w (hb hby dok_44) (pc' := 45) rfl ?_
        refine s_iconst w (hb hby dok_45) (v := 1) rfl (pc' := 46) rfl ?_
        refine s_isub w (hb hby dok_46) (pc' := 47) rfl ?_
        refine s_istore w #[.val (.ref r), .val (.int I0), .val (.int ln), .val (.int n0), .val (.int n1), .val (.int v0), .val (.int v1), .unset, .val (.int ((I0 - ln) - 1))] (hb hby dok_47) rfl (pc' := 49) rfl ?_
        refine s_iload w (hb hby dok_49) rfl (pc' := 51) rfl ?_
        refine s_if_ne w (hb hby dok_51) (by decide) (pc1 := 54) rfl (pc2 := 59) rfl (fun ct28 => ?_) (fun ct28 => ?_)
        · -- ((I0 - ln) - 1) = 0
          refine s_iload w (hb hby dok_54) rfl (pc' := 56) rfl ?_
          refine s_goto w (hb hby dok_56) (by decide) (pc' := 61) rfl ?_
          refine s_istore w #[.val (.ref r), .val (.int I0), .val (.int ln), .val (.int n0), .val (.int n1), .val (.int v0), .val (.int v1), .val (.int v0), .val (.int ((I0 - ln) - 1))] (hb hby dok_61) rfl (pc' := 63) rfl ?_
          refine s_aload_n w (hb hby dok_63) rfl rfl (pc' := 64) rfl ?_
          refine s_iload_n w (hb hby dok_64) rfl (pc' := 65) rfl ?_
          have hi : i < cs.length := (ofNat_cmp (by omega) (by omega)).mp (by rw [← hI]; exact ct3)
          refine w_virtualN w hEL (y := (⟨"java/lang/String", "charAt", "(I)C"⟩ : MethodName)) (y' := (⟨"java/lang/String", "charAt", "(I)C"⟩ : MethodName)) (C := "java/lang/String") (a := r) (hw _ (List.mem_of_getElem? (i := 176) rfl)) (hw _ (List.mem_of_getElem? (i := 177) rfl)) (hw _ (List.mem_of_getElem? (i := 179) rfl)) (hw _ (List.mem_of_getElem? (i := 179) rfl)) (hw _ (List.mem_of_getElem? (i := 178) rfl)) (hw _ (List.mem_of_getElem? (i := 7) rfl)) (hw _ (List.mem_of_getElem? (i := 180) rfl)) (by decide) Sr.1 (rm_cha G0 h r I0 i cs hI hi hl Sr) all0 all0 (argsL := [.int I0]) (rest := []) (lenOf (by decide +kernel : parseMethodDescriptor "(I)C" = some ⟨[.int], (some .char)⟩) rfl) rfl rfl (hb hby dok_65) (by rw [hml]; rfl) (W := 0) (Nat.le_of_eq rfl) (by decide) (by decide) (by decide) (by decide) (pc' := 68) rfl fun u29 N30 T h31 w K32 P33 => ?_
          obtain ⟨rfl, P34⟩ := P33
          obtain ⟨rfl, rfl⟩ := P34
          show Run p e below _ T (mkF m 68 #[.val (.ref r), .val (.int I0), .val (.int ln), .val (.int n0), .val (.int n1), .val (.int v0), .val (.int v1), .val (.int v0), .val (.int ((I0 - ln) - 1))] [.int (cs.getD i 0)])
          refine s_iload w (hb hby dok_68) rfl (pc' := 70) rfl ?_
          refine s_icmp_ne w (hb hby dok_70) (by decide) (pc1 := 73) rfl (pc2 := 77) rfl (fun ct35 => ?_) (fun ct35 => ?_)
          · -- (cs.getD i 0) = v0
            refine s_iconst w (hb hby dok_73) (v := 1) rfl (pc' := 74) rfl ?_
            refine s_goto w (hb hby dok_74) (by decide) (pc' := 78) rfl ?_
            exact w_ireturn w hEL hs hlk hret rfl (Or.inr (Or.inl rfl)) (hb hby dok_78) (by decide) (by decide) ⟨rfl, rfl⟩
          · -- ¬ ((cs.getD i 0) = v0)
            refine s_iconst w (hb hby dok_77) (v := 0) rfl (pc' := 78) rfl ?_
            exact absurd (by rw [hE i hi, ← hI]; unfold expE; rw [if_neg ct4, if_neg ct20, if_pos ct28]) ct35
        · -- ¬ (((I0 - ln) - 1) = 0)
          refine s_iload w (hb hby dok_59) rfl (pc' := 61) rfl ?_
          refine s_istore w #[.val (.ref r), .val (.int I0), .val (.int ln), .val (.int n0), .val (.int n1), .val (.int v0), .val (.int v1), .val (.int v1), .val (.int ((I0 - ln) - 1))] (hb hby dok_61) rfl (pc' := 63) rfl ?_
          refine s_aload_n w (hb hby dok_63) rfl rfl (pc' := 64) rfl ?_
          refine s_iload_n w (hb hby dok_64) rfl (pc' := 65) rfl ?_
          have hi : i < cs.length := (ofNat_cmp (by omega) (by omega)).mp (by rw [← hI]; exact ct3)
          refine w_virtualN w hEL (y := (⟨"java/lang/String", "charAt", "(I)C"⟩ : MethodName)) (y' := (⟨"java/lang/String", "charAt", "(I)C"⟩ : MethodName)) (C := "java/lang/String") (a := r) (hw _ (List.mem_of_getElem? (i := 176) rfl)) (hw _ (List.mem_of_getElem? (i := 177) rfl)) (hw _ (List.mem_of_getElem? (i := 179) rfl)) (hw _ (List.mem_of_getElem? (i := 179) rfl)) (hw _ (List.mem_of_getElem? (i := 178) rfl)) (hw _ (List.mem_of_getElem? (i := 7) rfl)) (hw _ (List.mem_of_getElem? (i := 180) rfl)) (by decide) Sr.1 (rm_cha G0 h r I0 i cs hI hi hl Sr) all0 all0 (argsL := [.int I0]) (rest := []) (lenOf (by decide +kernel : parseMethodDescriptor "(I)C" = some ⟨[.int], (some .char)⟩) rfl) rfl rfl (hb hby dok_65) (by rw [hml]; rfl) (W := 0) (Nat.le_of_eq rfl) (by decide) (by decide) (by decide) (by decide) (pc' := 68) rfl fun u36 N37 T h38 w K39 P40 => ?_
          obtain ⟨rfl, P41⟩ := P40
          obtain ⟨rfl, rfl⟩ := P41
          show Run p e below _ T (mkF m 68 #[.val (.ref r), .val (.int I0), .val (.int ln), .val (.int n0), .val (.int n1), .val (.int v0), .val (.int v1), .val (.int v1), .val (.int ((I0 - ln) - 1))] [.int (cs.getD i 0)])
          refine s_iload w (hb hby dok_68) rfl (pc' := 70) rfl ?_
          refine s_icmp_ne w (hb hby dok_70) (by decide) (pc1 := 73) rfl (pc2 := 77) rfl (fun ct42 => ?_) (fun ct42 => ?_)
          · -- (cs.getD i 0) = v1
            refine s_iconst w (hb hby dok_73) (v := 1) rfl (pc' := 74) rfl ?_
            refine s_goto w (hb hby dok_74) (by decide) (pc' := 78) rfl ?_
            exact w_ireturn w hEL hs hlk hret rfl (Or.inr (Or.inl rfl)) (hb hby dok_78) (by decide) (by decide) ⟨rfl, rfl⟩
          · -- ¬ ((cs.getD i 0) = v1)
            refine s_iconst w (hb hby dok_77) (v := 0) rfl (pc' := 78) rfl ?_
            exact absurd (by rw [hE i hi, ← hI]; unfold expE; rw [if_neg ct4, if_neg ct20, if_neg ct28]) ct42
theorem ef_law (m : MethodId) (p0 : Int32) (p1 : Int32) (p2 : Int32) : entryFrame m #[.int p0, .int p1, .int p2] maxLocals = mkF m 0 #[.val (.int p0), .val (.int p1), .val (.int p2), .unset, .unset, .unset, .unset, .unset, .unset, .unset, .unset, .unset, .unset, .unset, .unset, .unset] [] := by first | (simp [entryFrame, mkF, argsToLocals, Value.category, maxLocals]; done) | rfl
set_option maxRecDepth 65536 in
set_option maxHeartbeats 40000000 in
theorem rm_law {l : Launch} {Z : State} {a0 : Array Value} {zc : Int32} {fm : Value} (G : Gl Z a0 zc fm) (h : Heap) (p0 : Int32) (p1 : Int32) (p2 : Int32)  :
    Met l Z consts_1 x code maxLocals ret room_1 #[.int p0, .int p1, .int p2] h [] [] (fun v h' => v = some (.int 1)) := by
  have G0 := G
  obtain ⟨hw, hEL, SC, hz, SF, hfm, SA, SH, SL⟩ := G
  have hw1 : ∀ d ∈ StrChars.Road.words, d.before a0 Z = true := fun d q => hw d (sub1 d q)
  have hwA : ∀ d ∈ Bundle.stringAtoms, d.before a0 Z = true := fun d q => hw d (subA d q)
  refine Met.of (plainFor_of_name pn_7) ?_
  intro p e s m below meth c T hnm hret hlk hby hml hs w
  have hZ0 := w.old
  refine Run.cast (ef_law m p0 p1 p2) ?_
  have hwL : ∀ d ∈ StrChars.Road.wordsLen, d.before a0 Z = true := fun d q => hw d (subL d q)
  refine s_iload_n w (hb hby at_0) rfl (pc' := 1) rfl ?_
  refine w_ldcI w (v := 65535) (hw _ (List.mem_of_getElem? (i := 0) rfl)) (hb hby at_1) (pc' := 3) rfl ?_
  refine s_iand w (hb hby at_3) (pc' := 4) rfl ?_
  refine s_i2c w (hb hby at_4) (pc' := 5) rfl ?_
  generalize hv1 : ((nar .char (p0 &&& 65535)) : Int32) = v1
  refine s_istore_n w #[.val (.int p0), .val (.int p1), .val (.int p2), .val (.int v1), .unset, .unset, .unset, .unset, .unset, .unset, .unset, .unset, .unset, .unset, .unset, .unset] (hb hby at_5) rfl (pc' := 6) rfl ?_
  have lv1 : Chr v1 := by rw [← hv1]; exact chr_nar _
  refine s_iload_n w (hb hby at_6) rfl (pc' := 7) rfl ?_
  refine s_bipush w (hb hby at_7) (v := 16) rfl (pc' := 9) rfl ?_
  refine s_iushr w (hb hby at_9) (pc' := 10) rfl ?_
  refine w_ldcI w (v := 65535) (hw _ (List.mem_of_getElem? (i := 0) rfl)) (hb hby at_10) (pc' := 12) rfl ?_
  refine s_iand w (hb hby at_12) (pc' := 13) rfl ?_
  refine s_i2c w (hb hby at_13) (pc' := 14) rfl ?_
  generalize hv2 : ((nar .char ((XT.ushr p0 16) &&& 65535)) : Int32) = v2
  refine s_istore w #[.val (.int p0), .val (.int p1), .val (.int p2), .val (.int v1), .val (.int v2), .unset, .unset, .unset, .unset, .unset, .unset, .unset, .unset, .unset, .unset, .unset] (hb hby at_14) rfl (pc' := 16) rfl ?_
  have lv2 : Chr v2 := by rw [← hv2]; exact chr_nar _
  refine s_iload_n w (hb hby at_16) rfl (pc' := 17) rfl ?_
  refine w_ldcI w (v := 65535) (hw _ (List.mem_of_getElem? (i := 0) rfl)) (hb hby at_17) (pc' := 19) rfl ?_
  refine s_iand w (hb hby at_19) (pc' := 20) rfl ?_
  refine s_i2c w (hb hby at_20) (pc' := 21) rfl ?_
  generalize hv3 : ((nar .char (p1 &&& 65535)) : Int32) = v3
  refine s_istore w #[.val (.int p0), .val (.int p1), .val (.int p2), .val (.int v1), .val (.int v2), .val (.int v3), .unset, .unset, .unset, .unset, .unset, .unset, .unset, .unset, .unset, .unset] (hb hby at_21) rfl (pc' := 23) rfl ?_
  have lv3 : Chr v3 := by rw [← hv3]; exact chr_nar _
  refine s_iload_n w (hb hby at_23) rfl (pc' := 24) rfl ?_
  refine s_bipush w (hb hby at_24) (v := 16) rfl (pc' := 26) rfl ?_
  refine s_iushr w (hb hby at_26) (pc' := 27) rfl ?_
  refine w_ldcI w (v := 65535) (hw _ (List.mem_of_getElem? (i := 0) rfl)) (hb hby at_27) (pc' := 29) rfl ?_
  refine s_iand w (hb hby at_29) (pc' := 30) rfl ?_
  refine s_i2c w (hb hby at_30) (pc' := 31) rfl ?_
  generalize hv4 : ((nar .char ((XT.ushr p1 16) &&& 65535)) : Int32) = v4
  refine s_istore w #[.val (.int p0), .val (.int p1), .val (.int p2), .val (.int v1), .val (.int v2), .val (.int v3), .val (.int v4), .unset, .unset, .unset, .unset, .unset, .unset, .unset, .unset, .unset] (hb hby at_31) rfl (pc' := 33) rfl ?_
  have lv4 : Chr v4 := by rw [← hv4]; exact chr_nar _
  refine s_iload_n w (hb hby at_33) rfl (pc' := 34) rfl ?_
  refine s_bipush w (hb hby at_34) (v := 6) rfl (pc' := 36) rfl ?_
  refine s_iushr w (hb hby at_36) (pc' := 37) rfl ?_
  refine w_ldcI w (v := 65535) (hw _ (List.mem_of_getElem? (i := 0) rfl)) (hb hby at_37) (pc' := 39) rfl ?_
  refine s_iand w (hb hby at_39) (pc' := 40) rfl ?_
  refine s_i2c w (hb hby at_40) (pc' := 41) rfl ?_
  generalize hv5 : ((nar .char ((XT.ushr p2 6) &&& 65535)) : Int32) = v5
  refine s_istore w #[.val (.int p0), .val (.int p1), .val (.int p2), .val (.int v1), .val (.int v2), .val (.int v3), .val (.int v4), .val (.int v5), .unset, .unset, .unset, .unset, .unset, .unset, .unset, .unset] (hb hby at_41) rfl (pc' := 43) rfl ?_
  have lv5 : Chr v5 := by rw [← hv5]; exact chr_nar _
  refine s_iload_n w (hb hby at_43) rfl (pc' := 44) rfl ?_
  refine s_iconst w (hb hby at_44) (v := 3) rfl (pc' := 45) rfl ?_
  refine s_iand w (hb hby at_45) (pc' := 46) rfl ?_
  refine s_iconst w (hb hby at_46) (v := 3) rfl (pc' := 47) rfl ?_
  refine s_irem w (hb hby at_47) (by decide) (pc' := 48) rfl ?_
  generalize hv6 : (((p2 &&& 3) % 3) : Int32) = v6
  refine s_istore w #[.val (.int p0), .val (.int p1), .val (.int p2), .val (.int v1), .val (.int v2), .val (.int v3), .val (.int v4), .val (.int v5), .val (.int v6), .unset, .unset, .unset, .unset, .unset, .unset, .unset] (hb hby at_48) rfl (pc' := 50) rfl ?_
  refine s_iload_n w (hb hby at_50) rfl (pc' := 51) rfl ?_
  refine s_iconst w (hb hby at_51) (v := 2) rfl (pc' := 52) rfl ?_
  refine s_iushr w (hb hby at_52) (pc' := 53) rfl ?_
  refine s_iconst w (hb hby at_53) (v := 3) rfl (pc' := 54) rfl ?_
  refine s_iand w (hb hby at_54) (pc' := 55) rfl ?_
  refine s_iconst w (hb hby at_55) (v := 3) rfl (pc' := 56) rfl ?_
  refine s_irem w (hb hby at_56) (by decide) (pc' := 57) rfl ?_
  generalize hv7 : ((((XT.ushr p2 2) &&& 3) % 3) : Int32) = v7
  refine s_istore w #[.val (.int p0), .val (.int p1), .val (.int p2), .val (.int v1), .val (.int v2), .val (.int v3), .val (.int v4), .val (.int v5), .val (.int v6), .val (.int v7), .unset, .unset, .unset, .unset, .unset, .unset] (hb hby at_57) rfl (pc' := 59) rfl ?_
  refine s_iload_n w (hb hby at_59) rfl (pc' := 60) rfl ?_
  refine s_iconst w (hb hby at_60) (v := 4) rfl (pc' := 61) rfl ?_
  refine s_iushr w (hb hby at_61) (pc' := 62) rfl ?_
  refine s_iconst w (hb hby at_62) (v := 3) rfl (pc' := 63) rfl ?_
  refine s_iand w (hb hby at_63) (pc' := 64) rfl ?_
  refine s_iconst w (hb hby at_64) (v := 3) rfl (pc' := 65) rfl ?_
  refine s_irem w (hb hby at_65) (by decide) (pc' := 66) rfl ?_
  generalize hv8 : ((((XT.ushr p2 4) &&& 3) % 3) : Int32) = v8
  refine s_istore w #[.val (.int p0), .val (.int p1), .val (.int p2), .val (.int v1), .val (.int v2), .val (.int v3), .val (.int v4), .val (.int v5), .val (.int v6), .val (.int v7), .val (.int v8), .unset, .unset, .unset, .unset, .unset] (hb hby at_66) rfl (pc' := 68) rfl ?_
  have r1 : v6 = 0 ∨ v6 = 1 ∨ v6 = 2 := by rw [← hv6]; exact rem3 _
  have r2 : v7 = 0 ∨ v7 = 1 ∨ v7 = 2 := by rw [← hv7]; exact rem3 _
  have hl5 : (strM v6 v1 v2 ++ 32 :: strM v7 v3 v4).length ≤ 8 := by have a := strM_len v6 v1 v2; have b := strM_len v7 v3 v4; simp; omega
  refine s_iload w (hb hby at_68) rfl (pc' := 70) rfl ?_
  refine s_iload_n w (hb hby at_70) rfl (pc' := 71) rfl ?_
  refine s_iload w (hb hby at_71) rfl (pc' := 73) rfl ?_
  refine w_staticN w hEL (y := (⟨"com/example/tuikuan/tuikuan/OptionSynopsisPinLaw", "make", "(ICC)Ljava/lang/String;"⟩ : MethodName)) (hw _ (List.mem_of_getElem? (i := 1) rfl)) (hw _ (List.mem_of_getElem? (i := 2) rfl)) (hw _ (List.mem_of_getElem? (i := 3) rfl)) (hw _ (List.mem_of_getElem? (i := 4) rfl)) (by decide) (rm_make G0 h v6 v1 v2 lv1 lv2) all0 all0 (argsL := [.int v6, .int v1, .int v2]) (rest := []) (lenOf (by decide +kernel : parseMethodDescriptor "(ICC)Ljava/lang/String;" = some ⟨[.int, .char, .char], (some (.object "java/lang/String"))⟩) rfl) rfl rfl (hb hby at_73) (by rw [hml]; rfl) (W := 0) (Nat.le_of_eq rfl) (by decide) (by decide) (by decide) (by decide) (pc' := 76) rfl fun u9 N10 T h11 w K12 P13 => ?_
  obtain ⟨rfl, P14⟩ := P13
  obtain ⟨s15, rfl, F16⟩ := P14
  have E17 := Keep.ext0 K12
  show Run p e below _ T (mkF m 76 #[.val (.int p0), .val (.int p1), .val (.int p2), .val (.int v1), .val (.int v2), .val (.int v3), .val (.int v4), .val (.int v5), .val (.int v6), .val (.int v7), .val (.int v8), .unset, .unset, .unset, .unset, .unset] [.ref s15])
  refine s_astore w #[.val (.int p0), .val (.int p1), .val (.int p2), .val (.int v1), .val (.int v2), .val (.int v3), .val (.int v4), .val (.int v5), .val (.int v6), .val (.int v7), .val (.int v8), .val (.ref s15), .unset, .unset, .unset, .unset] (hb hby at_76) rfl rfl (pc' := 78) rfl ?_
  refine s_iload w (hb hby at_78) rfl (pc' := 80) rfl ?_
  refine s_iload w (hb hby at_80) rfl (pc' := 82) rfl ?_
  refine s_iload w (hb hby at_82) rfl (pc' := 84) rfl ?_
  refine w_staticN w hEL (y := (⟨"com/example/tuikuan/tuikuan/OptionSynopsisPinLaw", "make", "(ICC)Ljava/lang/String;"⟩ : MethodName)) (hw _ (List.mem_of_getElem? (i := 1) rfl)) (hw _ (List.mem_of_getElem? (i := 2) rfl)) (hw _ (List.mem_of_getElem? (i := 3) rfl)) (hw _ (List.mem_of_getElem? (i := 4) rfl)) (by decide) (rm_make G0 h11 v7 v3 v4 lv3 lv4) all0 all0 (argsL := [.int v7, .int v3, .int v4]) (rest := []) (lenOf (by decide +kernel : parseMethodDescriptor "(ICC)Ljava/lang/String;" = some ⟨[.int, .char, .char], (some (.object "java/lang/String"))⟩) rfl) rfl rfl (hb hby at_84) (by rw [hml]; rfl) (W := 0) (Nat.le_of_eq rfl) (by decide) (by decide) (by decide) (by decide) (pc' := 87) rfl fun u18 N19 T h20 w K21 P22 => ?_
  obtain ⟨rfl, P23⟩ := P22
  obtain ⟨s24, rfl, F25⟩ := P23
  have E26 := Keep.ext0 K21
  show Run p e below _ T (mkF m 87 #[.val (.int p0), .val (.int p1), .val (.int p2), .val (.int v1), .val (.int v2), .val (.int v3), .val (.int v4), .val (.int v5), .val (.int v6), .val (.int v7), .val (.int v8), .val (.ref s15), .unset, .unset, .unset, .unset] [.ref s24])
  refine s_astore w #[.val (.int p0), .val (.int p1), .val (.int p2), .val (.int v1), .val (.int v2), .val (.int v3), .val (.int v4), .val (.int v5), .val (.int v6), .val (.int v7), .val (.int v8), .val (.ref s15), .val (.ref s24), .unset, .unset, .unset] (hb hby at_87) rfl rfl (pc' := 89) rfl ?_
  refine s_iload w (hb hby at_89) rfl (pc' := 91) rfl ?_
  refine s_iload w (hb hby at_91) rfl (pc' := 93) rfl ?_
  refine s_iload w (hb hby at_93) rfl (pc' := 95) rfl ?_
  refine w_staticN w hEL (y := (⟨"com/example/tuikuan/tuikuan/OptionSynopsisPinLaw", "make", "(ICC)Ljava/lang/String;"⟩ : MethodName)) (hw _ (List.mem_of_getElem? (i := 1) rfl)) (hw _ (List.mem_of_getElem? (i := 2) rfl)) (hw _ (List.mem_of_getElem? (i := 3) rfl)) (hw _ (List.mem_of_getElem? (i := 4) rfl)) (by decide) (rm_make G0 h20 v8 v5 v4 lv5 lv4) all0 all0 (argsL := [.int v8, .int v5, .int v4]) (rest := []) (lenOf (by decide +kernel : parseMethodDescriptor "(ICC)Ljava/lang/String;" = some ⟨[.int, .char, .char], (some (.object "java/lang/String"))⟩) rfl) rfl rfl (hb hby at_95) (by rw [hml]; rfl) (W := 0) (Nat.le_of_eq rfl) (by decide) (by decide) (by decide) (by decide) (pc' := 98) rfl fun u27 N28 T h29 w K30 P31 => ?_
  obtain ⟨rfl, P32⟩ := P31
  obtain ⟨s33, rfl, F34⟩ := P32
  have E35 := Keep.ext0 K30
  show Run p e below _ T (mkF m 98 #[.val (.int p0), .val (.int p1), .val (.int p2), .val (.int v1), .val (.int v2), .val (.int v3), .val (.int v4), .val (.int v5), .val (.int v6), .val (.int v7), .val (.int v8), .val (.ref s15), .val (.ref s24), .unset, .unset, .unset] [.ref s33])
  refine s_astore w #[.val (.int p0), .val (.int p1), .val (.int p2), .val (.int v1), .val (.int v2), .val (.int v3), .val (.int v4), .val (.int v5), .val (.int v6), .val (.int v7), .val (.int v8), .val (.ref s15), .val (.ref s24), .val (.ref s33), .unset, .unset] (hb hby at_98) rfl rfl (pc' := 100) rfl ?_
  refine w_new w (hw _ (List.mem_of_getElem? (i := 38) rfl)) (hw _ (List.mem_of_getElem? (i := 39) rfl)) (hw _ (List.mem_of_getElem? (i := 40) rfl)) (hb hby at_100) (pc' := 103) rfl (by decide) (by decide) fun T h36 x37 w E38 q39 r40 A41 D42 => ?_
  have F_name_x37 : Fld Z h36 x37 "com/example/tuikuan/tuikuan/Usage$Option" "name" "Ljava/lang/String;" (.null) := D42 (Or.inr (hw _ (List.mem_of_getElem? (i := 51) rfl))) (ty := (.object "java/lang/String")) (by decide)
  have F_value_x37 : Fld Z h36 x37 "com/example/tuikuan/tuikuan/Usage$Option" "value" "Ljava/lang/String;" (.null) := D42 (Or.inr (hw _ (List.mem_of_getElem? (i := 53) rfl))) (ty := (.object "java/lang/String")) (by decide)
  have F_meaning_x37 : Fld Z h36 x37 "com/example/tuikuan/tuikuan/Usage$Option" "meaning" "Ljava/lang/String;" (.null) := D42 (Or.inr (hw _ (List.mem_of_getElem? (i := 55) rfl))) (ty := (.object "java/lang/String")) (by decide)
  refine s_dup w (hb hby at_103) rfl (pc' := 104) rfl ?_
  refine s_aload w (hb hby at_104) rfl rfl (pc' := 106) rfl ?_
  refine s_aload w (hb hby at_106) rfl rfl (pc' := 108) rfl ?_
  refine s_aload w (hb hby at_108) rfl rfl (pc' := 110) rfl ?_
  refine w_specialN w hEL (y := (⟨"com/example/tuikuan/tuikuan/Usage$Option", "<init>", "(Ljava/lang/String;Ljava/lang/String;Ljava/lang/String;)V"⟩ : MethodName)) (a := x37) rfl (hw _ (List.mem_of_getElem? (i := 41) rfl)) (hw _ (List.mem_of_getElem? (i := 42) rfl)) (hw _ (List.mem_of_getElem? (i := 40) rfl)) (hw _ (List.mem_of_getElem? (i := 43) rfl)) (by decide) (rm_oin G0 h36 x37 s15 s24 s33 _ _ _ A41 F_name_x37 F_value_x37 F_meaning_x37) all0 (allS (Or.inr r40) all0) (argsL := [.ref s15, .ref s24, .ref s33]) (rest := [.ref x37]) (lenOf (by decide +kernel : parseMethodDescriptor "(Ljava/lang/String;Ljava/lang/String;Ljava/lang/String;)V" = some ⟨[(.object "java/lang/String"), (.object "java/lang/String"), (.object "java/lang/String")], none⟩) rfl) rfl rfl (hb hby at_110) (by rw [hml]; rfl) (W := 1) (Nat.le_of_eq rfl) (by decide) (by decide) (by decide) (by decide) (pc' := 113) rfl fun u43 N44 T h45 w K46 P47 => ?_
  obtain ⟨rfl, P48⟩ := P47
  obtain ⟨rfl, Ao, Fo1, Fo2⟩ := P48
  have So1 := Str.keepO (((F16.ext E26).ext E35).ext E38) K46 A41 (by decide) (hw _ (List.mem_of_getElem? (i := 39) rfl))
  have So2 := Str.keepO ((F25.ext E35).ext E38) K46 A41 (by decide) (hw _ (List.mem_of_getElem? (i := 39) rfl))
  have E49 := Ext.kp E38 K46 (allS q39 all0)
  show Run p e below _ T (mkF m 113 #[.val (.int p0), .val (.int p1), .val (.int p2), .val (.int v1), .val (.int v2), .val (.int v3), .val (.int v4), .val (.int v5), .val (.int v6), .val (.int v7), .val (.int v8), .val (.ref s15), .val (.ref s24), .val (.ref s33), .unset, .unset] [.ref x37])
  refine s_astore w #[.val (.int p0), .val (.int p1), .val (.int p2), .val (.int v1), .val (.int v2), .val (.int v3), .val (.int v4), .val (.int v5), .val (.int v6), .val (.int v7), .val (.int v8), .val (.ref s15), .val (.ref s24), .val (.ref s33), .val (.ref x37), .unset] (hb hby at_113) rfl rfl (pc' := 115) rfl ?_
  refine s_aload w (hb hby at_115) rfl rfl (pc' := 117) rfl ?_
  refine w_virtualN w hEL (y := (⟨"com/example/tuikuan/tuikuan/Usage$Option", "synopsis", "()Ljava/lang/String;"⟩ : MethodName)) (y' := (⟨"com/example/tuikuan/tuikuan/Usage$Option", "synopsis", "()Ljava/lang/String;"⟩ : MethodName)) (C := "com/example/tuikuan/tuikuan/Usage$Option") (a := x37) (hw _ (List.mem_of_getElem? (i := 56) rfl)) (hw _ (List.mem_of_getElem? (i := 57) rfl)) (hw _ (List.mem_of_getElem? (i := 59) rfl)) (hw _ (List.mem_of_getElem? (i := 59) rfl)) (hw _ (List.mem_of_getElem? (i := 58) rfl)) (hw _ (List.mem_of_getElem? (i := 40) rfl)) (hw _ (List.mem_of_getElem? (i := 60) rfl)) (by decide) Ao (rm_syn G0 h45 x37 s15 s24 _ _ Fo1 Fo2 So1 So2 (strM_len _ _ _) (strM_len _ _ _) (Nat.le_trans (strM_len _ _ _) (by decide)) (Nat.le_trans (strM_len _ _ _) (by decide))) all0 all0 (argsL := []) (rest := []) (lenOf (by decide +kernel : parseMethodDescriptor "()Ljava/lang/String;" = some ⟨[], (some (.object "java/lang/String"))⟩) rfl) rfl rfl (hb hby at_117) (by rw [hml]; rfl) (W := 0) (Nat.le_of_eq rfl) (by decide) (by decide) (by decide) (by decide) (pc' := 120) rfl fun u50 N51 T h52 w K53 P54 => ?_
  obtain ⟨rfl, P55⟩ := P54
  obtain ⟨r0, rfl, Sr⟩ := P55
  have E56 := Keep.ext0 K53
  show Run p e below _ T (mkF m 120 #[.val (.int p0), .val (.int p1), .val (.int p2), .val (.int v1), .val (.int v2), .val (.int v3), .val (.int v4), .val (.int v5), .val (.int v6), .val (.int v7), .val (.int v8), .val (.ref s15), .val (.ref s24), .val (.ref s33), .val (.ref x37), .unset] [.ref r0])
  refine s_astore w #[.val (.int p0), .val (.int p1), .val (.int p2), .val (.int v1), .val (.int v2), .val (.int v3), .val (.int v4), .val (.int v5), .val (.int v6), .val (.int v7), .val (.int v8), .val (.ref s15), .val (.ref s24), .val (.ref s33), .val (.ref x37), .val (.ref r0)] (hb hby at_120) rfl rfl (pc' := 122) rfl ?_
  refine s_aload w (hb hby at_122) rfl rfl (pc' := 124) rfl ?_
  refine s_ifnull_no w (hb hby at_124) (pc' := 127) rfl ?_
  refine s_aload w (hb hby at_127) rfl rfl (pc' := 129) rfl ?_
  obtain ⟨XE, Xt, Xkb, Xcd, XN, Xvs, Xq1, Xq2, Xq3, Xq4, Xq5, Xq6⟩ := id Sr
  refine w_virtB w (y := Len.yN) (y' := Len.yN) (C := ST) (hw _ (List.mem_of_getElem? (i := 172) rfl)) (hw _ (List.mem_of_getElem? (i := 90) rfl)) (hw _ (List.mem_of_getElem? (i := 92) rfl)) (hw _ (List.mem_of_getElem? (i := 92) rfl)) (hw _ (List.mem_of_getElem? (i := 91) rfl)) (by decide) XE (Pv := fun v => v = some (.int (Int32.ofNat (strM v6 v1 v2 ++ 32 :: strM v7 v3 v4).length))) (as' := #[.ref r0]) (W := 0) (fun vm0 hZ => StrChars.Road.lenW hZ hwL (hw _ (List.mem_of_getElem? (i := 6) rfl)) XE Xq1 Xq2 Xq3 Xq4 Xq5 (SC.ext w.old) hz Xq6 (by decide) (by decide)) (argsL := []) (rest := []) (lenOf (by decide +kernel : parseMethodDescriptor "()I" = some ⟨[], (some .int)⟩) rfl) rfl rfl (hb hby at_129) (by rw [hml]; rfl) (Nat.le_of_eq rfl) (by decide) (by decide) (pc' := 132) rfl fun u57 T w P58 => ?_
  obtain rfl := P58
  show Run p e below _ T (mkF m 132 #[.val (.int p0), .val (.int p1), .val (.int p2), .val (.int v1), .val (.int v2), .val (.int v3), .val (.int v4), .val (.int v5), .val (.int v6), .val (.int v7), .val (.int v8), .val (.ref s15), .val (.ref s24), .val (.ref s33), .val (.ref x37), .val (.ref r0)] [.int (Int32.ofNat (strM v6 v1 v2 ++ 32 :: strM v7 v3 v4).length)])
  refine s_iload w (hb hby at_132) rfl (pc' := 134) rfl ?_
  refine s_iconst w (hb hby at_134) (v := 1) rfl (pc' := 135) rfl ?_
  refine s_iadd w (hb hby at_135) (pc' := 136) rfl ?_
  refine s_iload w (hb hby at_136) rfl (pc' := 138) rfl ?_
  refine s_iadd w (hb hby at_138) (pc' := 139) rfl ?_
  refine s_icmp_eq w (hb hby at_139) (by decide) (pc1 := 142) rfl (pc2 := 144) rfl (fun ct59 => ?_) (fun ct59 => ?_)
  · exact absurd (len_all r1 r2) ct59
  · skip
    refine s_aload w (hb hby at_144) rfl rfl (pc' := 146) rfl ?_
    refine s_iconst w (hb hby at_146) (v := 0) rfl (pc' := 147) rfl ?_
    refine s_iload w (hb hby at_147) rfl (pc' := 149) rfl ?_
    refine s_iload_n w (hb hby at_149) rfl (pc' := 150) rfl ?_
    refine s_iload w (hb hby at_150) rfl (pc' := 152) rfl ?_
    refine s_iload w (hb hby at_152) rfl (pc' := 154) rfl ?_
    refine s_iload w (hb hby at_154) rfl (pc' := 156) rfl ?_
    refine w_staticN w hEL (y := (⟨"com/example/tuikuan/tuikuan/OptionSynopsisPinLaw", "ok", "(Ljava/lang/String;IICCCC)Z"⟩ : MethodName)) (hw _ (List.mem_of_getElem? (i := 173) rfl)) (hw _ (List.mem_of_getElem? (i := 174) rfl)) (hw _ (List.mem_of_getElem? (i := 3) rfl)) (hw _ (List.mem_of_getElem? (i := 175) rfl)) (by decide) (rm_ok G0 h52 r0 0 v6 v1 v2 v3 v4 0 (strM v6 v1 v2 ++ 32 :: strM v7 v3 v4) rfl (by decide) hl5 Sr (exp_all r1 r2)) all0 all0 (argsL := [.ref r0, .int 0, .int v6, .int v1, .int v2, .int v3, .int v4]) (rest := []) (lenOf (by decide +kernel : parseMethodDescriptor "(Ljava/lang/String;IICCCC)Z" = some ⟨[(.object "java/lang/String"), .int, .int, .char, .char, .char, .char], (some .boolean)⟩) rfl) rfl rfl (hb hby at_156) (by rw [hml]; rfl) (W := 0) (Nat.le_of_eq rfl) (by decide) (by decide) (by decide) (by decide) (pc' := 159) rfl fun u60 N61 T h62 w K63 P64 => ?_
    obtain ⟨rfl, P65⟩ := P64
    obtain ⟨rfl, rfl⟩ := P65
    show Run p e below _ T (mkF m 159 #[.val (.int p0), .val (.int p1), .val (.int p2), .val (.int v1), .val (.int v2), .val (.int v3), .val (.int v4), .val (.int v5), .val (.int v6), .val (.int v7), .val (.int v8), .val (.ref s15), .val (.ref s24), .val (.ref s33), .val (.ref x37), .val (.ref r0)] [.int 1])
    refine s_if_eq w (hb hby at_159) (by decide) (pc1 := 162) rfl (pc2 := 238) rfl (fun _ => ?_) (fun q => absurd q (by decide))
    refine s_aload w (hb hby at_162) rfl rfl (pc' := 164) rfl ?_
    refine s_iconst w (hb hby at_164) (v := 1) rfl (pc' := 165) rfl ?_
    refine s_iload w (hb hby at_165) rfl (pc' := 167) rfl ?_
    refine s_iload_n w (hb hby at_167) rfl (pc' := 168) rfl ?_
    refine s_iload w (hb hby at_168) rfl (pc' := 170) rfl ?_
    refine s_iload w (hb hby at_170) rfl (pc' := 172) rfl ?_
    refine s_iload w (hb hby at_172) rfl (pc' := 174) rfl ?_
    refine w_staticN w hEL (y := (⟨"com/example/tuikuan/tuikuan/OptionSynopsisPinLaw", "ok", "(Ljava/lang/String;IICCCC)Z"⟩ : MethodName)) (hw _ (List.mem_of_getElem? (i := 173) rfl)) (hw _ (List.mem_of_getElem? (i := 174) rfl)) (hw _ (List.mem_of_getElem? (i := 3) rfl)) (hw _ (List.mem_of_getElem? (i := 175) rfl)) (by decide) (rm_ok G0 h52 r0 1 v6 v1 v2 v3 v4 1 (strM v6 v1 v2 ++ 32 :: strM v7 v3 v4) rfl (by decide) hl5 Sr (exp_all r1 r2)) all0 all0 (argsL := [.ref r0, .int 1, .int v6, .int v1, .int v2, .int v3, .int v4]) (rest := []) (lenOf (by decide +kernel : parseMethodDescriptor "(Ljava/lang/String;IICCCC)Z" = some ⟨[(.object "java/lang/String"), .int, .int, .char, .char, .char, .char], (some .boolean)⟩) rfl) rfl rfl (hb hby at_174) (by rw [hml]; rfl) (W := 0) (Nat.le_of_eq rfl) (by decide) (by decide) (by decide) (by decide) (pc' := 177) rfl fun u67 N68 T h69 w K70 P71 => ?_
    obtain ⟨rfl, P72⟩ := P71
    obtain ⟨rfl, rfl⟩ := P72
    show Run p e below _ T (mkF m 177 #[.val (.int p0), .val (.int p1), .val (.int p2), .val (.int v1), .val (.int v2), .val (.int v3), .val (.int v4), .val (.int v5), .val (.int v6), .val (.int v7), .val (.int v8), .val (.ref s15), .val (.ref s24), .val (.ref s33), .val (.ref x37), .val (.ref r0)] [.int 1])
    refine s_if_eq w (hb hby at_177) (by decide) (pc1 := 180) rfl (pc2 := 238) rfl (fun _ => ?_) (fun q => absurd q (by decide))
    refine s_aload w (hb hby at_180) rfl rfl (pc' := 182) rfl ?_
    refine s_iconst w (hb hby at_182) (v := 2) rfl (pc' := 183) rfl ?_
    refine s_iload w (hb hby at_183) rfl (pc' := 185) rfl ?_
    refine s_iload_n w (hb hby at_185) rfl (pc' := 186) rfl ?_
    refine s_iload w (hb hby at_186) rfl (pc' := 188) rfl ?_
    refine s_iload w (hb hby at_188) rfl (pc' := 190) rfl ?_
    refine s_iload w (hb hby at_190) rfl (pc' := 192) rfl ?_
    refine w_staticN w hEL (y := (⟨"com/example/tuikuan/tuikuan/OptionSynopsisPinLaw", "ok", "(Ljava/lang/String;IICCCC)Z"⟩ : MethodName)) (hw _ (List.mem_of_getElem? (i := 173) rfl)) (hw _ (List.mem_of_getElem? (i := 174) rfl)) (hw _ (List.mem_of_getElem? (i := 3) rfl)) (hw _ (List.mem_of_getElem? (i := 175) rfl)) (by decide) (rm_ok G0 h52 r0 2 v6 v1 v2 v3 v4 2 (strM v6 v1 v2 ++ 32 :: strM v7 v3 v4) rfl (by decide) hl5 Sr (exp_all r1 r2)) all0 all0 (argsL := [.ref r0, .int 2, .int v6, .int v1, .int v2, .int v3, .int v4]) (rest := []) (lenOf (by decide +kernel : parseMethodDescriptor "(Ljava/lang/String;IICCCC)Z" = some ⟨[(.object "java/lang/String"), .int, .int, .char, .char, .char, .char], (some .boolean)⟩) rfl) rfl rfl (hb hby at_192) (by rw [hml]; rfl) (W := 0) (Nat.le_of_eq rfl) (by decide) (by decide) (by decide) (by decide) (pc' := 195) rfl fun u74 N75 T h76 w K77 P78 => ?_
    obtain ⟨rfl, P79⟩ := P78
    obtain ⟨rfl, rfl⟩ := P79
    show Run p e below _ T (mkF m 195 #[.val (.int p0), .val (.int p1), .val (.int p2), .val (.int v1), .val (.int v2), .val (.int v3), .val (.int v4), .val (.int v5), .val (.int v6), .val (.int v7), .val (.int v8), .val (.ref s15), .val (.ref s24), .val (.ref s33), .val (.ref x37), .val (.ref r0)] [.int 1])
    refine s_if_eq w (hb hby at_195) (by decide) (pc1 := 198) rfl (pc2 := 238) rfl (fun _ => ?_) (fun q => absurd q (by decide))
    refine s_aload w (hb hby at_198) rfl rfl (pc' := 200) rfl ?_
    refine s_iconst w (hb hby at_200) (v := 3) rfl (pc' := 201) rfl ?_
    refine s_iload w (hb hby at_201) rfl (pc' := 203) rfl ?_
    refine s_iload_n w (hb hby at_203) rfl (pc' := 204) rfl ?_
    refine s_iload w (hb hby at_204) rfl (pc' := 206) rfl ?_
    refine s_iload w (hb hby at_206) rfl (pc' := 208) rfl ?_
    refine s_iload w (hb hby at_208) rfl (pc' := 210) rfl ?_
    refine w_staticN w hEL (y := (⟨"com/example/tuikuan/tuikuan/OptionSynopsisPinLaw", "ok", "(Ljava/lang/String;IICCCC)Z"⟩ : MethodName)) (hw _ (List.mem_of_getElem? (i := 173) rfl)) (hw _ (List.mem_of_getElem? (i := 174) rfl)) (hw _ (List.mem_of_getElem? (i := 3) rfl)) (hw _ (List.mem_of_getElem? (i := 175) rfl)) (by decide) (rm_ok G0 h52 r0 3 v6 v1 v2 v3 v4 3 (strM v6 v1 v2 ++ 32 :: strM v7 v3 v4) rfl (by decide) hl5 Sr (exp_all r1 r2)) all0 all0 (argsL := [.ref r0, .int 3, .int v6, .int v1, .int v2, .int v3, .int v4]) (rest := []) (lenOf (by decide +kernel : parseMethodDescriptor "(Ljava/lang/String;IICCCC)Z" = some ⟨[(.object "java/lang/String"), .int, .int, .char, .char, .char, .char], (some .boolean)⟩) rfl) rfl rfl (hb hby at_210) (by rw [hml]; rfl) (W := 0) (Nat.le_of_eq rfl) (by decide) (by decide) (by decide) (by decide) (pc' := 213) rfl fun u81 N82 T h83 w K84 P85 => ?_
    obtain ⟨rfl, P86⟩ := P85
    obtain ⟨rfl, rfl⟩ := P86
    show Run p e below _ T (mkF m 213 #[.val (.int p0), .val (.int p1), .val (.int p2), .val (.int v1), .val (.int v2), .val (.int v3), .val (.int v4), .val (.int v5), .val (.int v6), .val (.int v7), .val (.int v8), .val (.ref s15), .val (.ref s24), .val (.ref s33), .val (.ref x37), .val (.ref r0)] [.int 1])
    refine s_if_eq w (hb hby at_213) (by decide) (pc1 := 216) rfl (pc2 := 238) rfl (fun _ => ?_) (fun q => absurd q (by decide))
    refine s_aload w (hb hby at_216) rfl rfl (pc' := 218) rfl ?_
    refine s_iconst w (hb hby at_218) (v := 4) rfl (pc' := 219) rfl ?_
    refine s_iload w (hb hby at_219) rfl (pc' := 221) rfl ?_
    refine s_iload_n w (hb hby at_221) rfl (pc' := 222) rfl ?_
    refine s_iload w (hb hby at_222) rfl (pc' := 224) rfl ?_
    refine s_iload w (hb hby at_224) rfl (pc' := 226) rfl ?_
    refine s_iload w (hb hby at_226) rfl (pc' := 228) rfl ?_
    refine w_staticN w hEL (y := (⟨"com/example/tuikuan/tuikuan/OptionSynopsisPinLaw", "ok", "(Ljava/lang/String;IICCCC)Z"⟩ : MethodName)) (hw _ (List.mem_of_getElem? (i := 173) rfl)) (hw _ (List.mem_of_getElem? (i := 174) rfl)) (hw _ (List.mem_of_getElem? (i := 3) rfl)) (hw _ (List.mem_of_getElem? (i := 175) rfl)) (by decide) (rm_ok G0 h52 r0 4 v6 v1 v2 v3 v4 4 (strM v6 v1 v2 ++ 32 :: strM v7 v3 v4) rfl (by decide) hl5 Sr (exp_all r1 r2)) all0 all0 (argsL := [.ref r0, .int 4, .int v6, .int v1, .int v2, .int v3, .int v4]) (rest := []) (lenOf (by decide +kernel : parseMethodDescriptor "(Ljava/lang/String;IICCCC)Z" = some ⟨[(.object "java/lang/String"), .int, .int, .char, .char, .char, .char], (some .boolean)⟩) rfl) rfl rfl (hb hby at_228) (by rw [hml]; rfl) (W := 0) (Nat.le_of_eq rfl) (by decide) (by decide) (by decide) (by decide) (pc' := 231) rfl fun u88 N89 T h90 w K91 P92 => ?_
    obtain ⟨rfl, P93⟩ := P92
    obtain ⟨rfl, rfl⟩ := P93
    show Run p e below _ T (mkF m 231 #[.val (.int p0), .val (.int p1), .val (.int p2), .val (.int v1), .val (.int v2), .val (.int v3), .val (.int v4), .val (.int v5), .val (.int v6), .val (.int v7), .val (.int v8), .val (.ref s15), .val (.ref s24), .val (.ref s33), .val (.ref x37), .val (.ref r0)] [.int 1])
    refine s_if_eq w (hb hby at_231) (by decide) (pc1 := 234) rfl (pc2 := 238) rfl (fun _ => ?_) (fun q => absurd q (by decide))
    refine s_iconst w (hb hby at_234) (v := 1) rfl (pc' := 235) rfl ?_
    refine s_goto w (hb hby at_235) (by decide) (pc' := 239) rfl ?_
    exact w_ireturn w hEL hs hlk hret rfl (Or.inr (Or.inl rfl)) (hb hby at_239) (by decide) (by decide) rfl
set_option maxRecDepth 65536 in
set_option maxHeartbeats 40000000 in
theorem comes_1 {Post : Tables → Env → Array Value → State → Outcome → State → Prop} (hpost : ∀ tb e args s v u, (limb_1_1.after args s (.returned v) u = true ∧ limb_1_2.after args s (.returned v) u = true ∧ True) → FramedW s (.returned v) u (Jvm.fieldLocs frame_1_writes args s ++ Jvm.arrayLocs frame_1_arrays args s ++ Jvm.staticLocs frame_1_statics s) room_1.cells room_1.slots → Post tb e args s (.returned v) u) :
    ArmFor flags0 classFile x code maxLocals ret World_1 tables_1 room_1 Calls_1 rest_1 Pre_1 Post := by
  intro l hfl _ _ p e ha hc hk s m args below hf hA hF happ hP
  obtain ⟨hcalls, hrest, hpre⟩ := hP
  obtain ⟨-, -, -, hnamed, -, -, -, hat⟩ := (Spec.applies_iff hf).mp happ
  obtain ⟨hg, hn⟩ := and_e (Cond.before_iff.mp (show (Jvm.Cond.and given_1 narrow_1).before args s = true from hpre))
  obtain ⟨hcnt, hg⟩ := and_e hg
  obtain ⟨w0, w1, w2, rfl⟩ : ∃ w0 w1 w2 : Value, args = #[w0, w1, w2] := by
    have hs : args.size = 3 := by simpa [Cond.value, given_1] using hcnt
    obtain ⟨L⟩ := args
    match L, hs with
    | [w0, w1, w2], _ => exact ⟨w0, w1, w2, rfl⟩
  obtain ⟨g0, hg⟩ := and_e hg
  obtain ⟨g1, hg⟩ := and_e hg
  have g2 := hg
  obtain ⟨i0, e0⟩ := is_v g0
  obtain rfl : w0 = .int i0 := Option.some.inj e0
  obtain ⟨i1, e1⟩ := is_v g1
  obtain rfl : w1 = .int i1 := Option.some.inj e1
  obtain ⟨i2, e2⟩ := is_v g2
  obtain rfl : w2 = .int i2 := Option.some.inj e2
  have hw := fun d (hd : d ∈ tables_1) => atoms_spec (ws := Jvm.Cond.code x code maxLocals ret :: tables_1) hat d (List.mem_cons_of_mem _ hd)
  have hset : ∀ d ∈ jdkStatics_1, d.before _ s = true := (atoms_of jdkStatics_1 (show (jdkStatics_1.foldr Jvm.Cond.and restOwn_1).before _ s = true from hrest)).1
  have hEL : EW s _ consts_1 := (EW.cons (hw _ (List.mem_of_getElem? (i := 35) rfl)) (by decide) (EW.cons (hw _ (List.mem_of_getElem? (i := 126) rfl)) (by decide) EW.nil))
  obtain ⟨zc, vzc⟩ := is_v (Cond.before_iff.mp (hset _ (List.mem_of_getElem? (i := 1) rfl)))
  have SC : Sta s s.heap ST "COMPACT_STRINGS" "Z" (.int zc) := Sta.start vzc (Or.inl (hset _ (List.mem_of_getElem? (i := 0) rfl)))
  have hz : ¬ zc = 0 := ne_int vzc (hset _ (List.mem_of_getElem? (i := 2) rfl))
  obtain ⟨fm, vfm, hfm⟩ := isR_v (Cond.before_iff.mp (hset _ (List.mem_of_getElem? (i := 8) rfl)))
  have SF : Sta s s.heap "jdk/internal/util/Preconditions" "SIOOBE_FORMATTER" "Ljava/util/function/BiFunction;" fm := Sta.start vfm (Or.inl (hset _ (List.mem_of_getElem? (i := 7) rfl)))
  have SA : Sta s s.heap "java/lang/StringUTF16" "$assertionsDisabled" "Z" (.int 1) := Sta.start (eq_int (Cond.before_iff.mp (hset _ (List.mem_of_getElem? (i := 12) rfl)))) (Or.inl (hset _ (List.mem_of_getElem? (i := 11) rfl)))
  have SH : Sta s s.heap "java/lang/StringUTF16" "HI_BYTE_SHIFT" "I" (.int 0) := Sta.start (eq_int (Cond.before_iff.mp (hset _ (List.mem_of_getElem? (i := 15) rfl)))) (Or.inl (hset _ (List.mem_of_getElem? (i := 14) rfl)))
  have SL : Sta s s.heap "java/lang/StringUTF16" "LO_BYTE_SHIFT" "I" (.int 8) := Sta.start (eq_int (Cond.before_iff.mp (hset _ (List.mem_of_getElem? (i := 18) rfl)))) (Or.inl (hset _ (List.mem_of_getElem? (i := 17) rfl)))
  have G : Gl s #[.int i0, .int i1, .int i2] zc fm := ⟨hw, hEL, SC, hz, SF, hfm, SA, SH, SL⟩
  have hCH : CHv s consts_1 s.vm s.heap := CHv.start hEL (fun q hq => hcalls.1 q hq) (hset _ (List.mem_of_getElem? (i := 2) rfl)) (hw _ (List.mem_of_getElem? (i := 24) rfl)) (hw _ (List.mem_of_getElem? (i := 6) rfl))
  obtain ⟨n, o, h1, h2, h3, v, L, rfl, ⟨N, -, -, ⟨-, rfl⟩, -⟩, -, hq⟩ := (rm_law (l := l) G s.heap i0 i1 i2) tables_1 p e ha hc hk s m _ below hf ((Spec.applies_iff_loose hf).mp happ).1 ⟨rfl, State.Warmed39.refl s, rfl, hCH, Ext.rf _, all0, all0⟩ trivial
  refine ⟨n, _, h1, h2, h3, hpost _ _ _ _ _ _ ⟨Cond.after_iff.mpr rfl, Cond.after_iff.mpr (eq_i res_at (Term.int_eval (1)) rfl), trivial⟩ ⟨hq.1, hq.2.1, hq.2.2.1, hq.2.2.2.sift fun y hy => Or.inr (N y hy)⟩⟩
end Ow
theorem main_1_1 : Claimed_1_1 := Ow.comes_1 fun _ _ _ _ _ _ h hF => ⟨h.1, hF⟩
theorem main_1_2 : Claimed_1_2 := Ow.comes_1 fun _ _ _ _ _ _ h hF => ⟨h.2.1, hF⟩
end Jvm.Pilot.@@N@@
namespace Jvm.Pilot.@@N@@
open Jvm Jvm.ClassFile Sem Op Lib Jvm.Free Jvm.Stand Jvm.Pilot.@@N@@.Jvm.D
/-! MADE BY PROGRAM (witnessworld.py) out of the Statement's table words and the real class files: 27 classes; the members and pool entries that the words name. The judged class is class 1, her method 3. -/
namespace start1
open Jvm.ClassFile
def u (s : String) : CpInfo := .utf8 (stringToUtf16 s)
/-- a pool by its gaps: so many unusable entries, then the entry; so many at the end -/
def gap : Nat → List CpInfo → List CpInfo
  | 0, r => r
  | n + 1, r => .unusable :: gap n r
def poolList (es : List (Nat × CpInfo)) (last : Nat) : List CpInfo := es.foldr (fun e r => gap e.1 (e.2 :: r)) (gap last [])
def pool (es : List (Nat × CpInfo)) (last : Nat) : Array CpInfo := ⟨poolList es last⟩
def fileOf (pool : Array CpInfo) (this : Nat) (attrs : Array Attribute := #[]) (ms : Array MethodInfo := #[]) (fl : Nat := 33) (sup : Nat := 0) (ifs : Array Nat := #[]) (fds : Array FieldInfo := #[]) : ClassFile where
  minorVersion := 0
  majorVersion := 65
  constantPool := pool
  accessFlags := fl
  thisClass := this
  superClass := sup
  interfaces := ifs
  fields := fds
  methods := ms
  attributes := attrs
def plain (name : String) (sup : Option ClassId) : Class where
  name := name
  kind := .ordinary
  loader := none
  accessFlags := 33
  super := sup
  interfaces := #[]
  cf := none
  fields := #[]
  methods := #[]
  instanceTypes := #[]
  staticTypes := #[]
  resolved := #[]
  callSites := []
  init := .initialized
  statics := none
  mirror := none

def pool0 : Array CpInfo := pool [(5, u "<init>"), (0, u "()V"), (1, .class_ 10), (1, u "java/lang/Object")] 113

def k0c0 : Code := { maxStack := 0, maxLocals := 1, code := object_method_1_code, exceptionTable := #[], attributes := #[] }
def k0m0 : Method := { name := "<init>", desc := "()V", sig := { parameters := [], returnType := none }, accessFlags := 1, code := some k0c0 }
/-- java/lang/Object -/
def k0 : Class := { plain "java/lang/Object" none with
  accessFlags := 33
  interfaces := #[]
  cf := some (fileOf pool0 8 #[] #[{ accessFlags := 1, nameIndex := 5, descriptorIndex := 6, attributes := #[] }] 33 0 #[] #[])
  fields := #[]
  methods := #[k0m0]
  instanceTypes := #[]
  staticTypes := #[]
  resolved := Array.replicate 124 none
  statics := none }

def pool1 : Array CpInfo := pool [(2, .class_ 4), (1, u "java/lang/Object"), (0, u "<init>"), (0, u "()V"), (0, .string 8), (0, u ""), (0, .methodref 10 11), (0, .class_ 12), (0, .nameAndType 13 14), (0, u "java/lang/String"), (0, u "valueOf"), (0, u "(C)Ljava/lang/String;"), (0, .methodref 10 16), (0, .nameAndType 5 17), (0, u "([C)V"), (0, .methodref 10 19), (0, .nameAndType 20 21), (0, u "length"), (0, u "()I"), (0, .methodref 10 23), (0, .nameAndType 24 25), (0, u "charAt"), (0, u "(I)C"), (0, .integer 65535), (0, .methodref 28 29), (0, .class_ 30), (0, .nameAndType 31 32), (0, u "com/example/tuikuan/tuikuan/OptionSynopsisPinLaw"), (0, u "make"), (0, u "(ICC)Ljava/lang/String;"), (0, .class_ 34), (0, u "com/example/tuikuan/tuikuan/Usage$Option"), (0, .methodref 33 36), (0, .nameAndType 5 37), (0, u "(Ljava/lang/String;Ljava/lang/String;Ljava/lang/String;)V"), (0, .methodref 33 39), (0, .nameAndType 40 41), (0, u "synopsis"), (0, u "()Ljava/lang/String;"), (0, .methodref 28 43), (0, .nameAndType 44 45), (0, u "ok"), (0, u "(Ljava/lang/String;IICCCC)Z"), (3, u "law"), (0, u "(III)Z")] 6

def k1m0 : Method := { name := "<init>", desc := "()V", sig := { parameters := [], returnType := none }, accessFlags := 1, code := none }
def k1c1 : Code := { maxStack := 6, maxLocals := 3, code := method_2_code, exceptionTable := #[], attributes := #[] }
def k1m1 : Method := { name := "make", desc := "(ICC)Ljava/lang/String;", sig := { parameters := [.int, .char, .char], returnType := some (.object "java/lang/String") }, accessFlags := 10, code := some k1c1 }
def k1c2 : Code := { maxStack := 2, maxLocals := 9, code := method_3_code, exceptionTable := #[], attributes := #[] }
def k1m2 : Method := { name := "ok", desc := "(Ljava/lang/String;IICCCC)Z", sig := { parameters := [(.object "java/lang/String"), .int, .int, .char, .char, .char, .char], returnType := some .boolean }, accessFlags := 10, code := some k1c2 }
def k1c3 : Code := { maxStack := 7, maxLocals := 16, code := code, exceptionTable := #[], attributes := #[] }
def k1m3 : Method := { name := "law", desc := "(III)Z", sig := { parameters := [.int, .int, .int], returnType := some .boolean }, accessFlags := 9, code := some k1c3 }
/-- com/example/tuikuan/tuikuan/OptionSynopsisPinLaw -/
def k1 : Class := { plain "com/example/tuikuan/tuikuan/OptionSynopsisPinLaw" (some 0) with
  accessFlags := 49
  interfaces := #[]
  cf := some (fileOf pool1 28 #[] #[{ accessFlags := 1, nameIndex := 5, descriptorIndex := 6, attributes := #[] }, { accessFlags := 10, nameIndex := 31, descriptorIndex := 32, attributes := #[] }, { accessFlags := 10, nameIndex := 44, descriptorIndex := 45, attributes := #[] }, { accessFlags := 9, nameIndex := 49, descriptorIndex := 50, attributes := #[] }] 49 2 #[] #[])
  fields := #[]
  methods := #[k1m0, k1m1, k1m2, k1m3]
  instanceTypes := #[]
  staticTypes := #[]
  resolved := Array.replicate 57 none
  statics := none }

def pool2 : Array CpInfo := pool [(1, .class_ 2), (0, u "java/io/Serializable"), (0, .class_ 4), (0, u "java/lang/Object")] 2

/-- java/io/Serializable -/
def k2 : Class := { plain "java/io/Serializable" (some 0) with
  accessFlags := 1537
  interfaces := #[]
  cf := some (fileOf pool2 1 #[] #[] 1537 3 #[] #[])
  fields := #[]
  methods := #[]
  instanceTypes := #[]
  staticTypes := #[]
  resolved := Array.replicate 7 none
  statics := none }

def pool3 : Array CpInfo := pool [(1, .class_ 2), (0, u "java/lang/Comparable"), (0, .class_ 4), (0, u "java/lang/Object")] 7

/-- java/lang/Comparable -/
def k3 : Class := { plain "java/lang/Comparable" (some 0) with
  accessFlags := 1537
  interfaces := #[]
  cf := some (fileOf pool3 1 #[] #[] 1537 3 #[] #[])
  fields := #[]
  methods := #[]
  instanceTypes := #[]
  staticTypes := #[]
  resolved := Array.replicate 12 none
  statics := none }

def pool4 : Array CpInfo := pool [(2, .class_ 4), (1, u "java/lang/CharSequence"), (42, .class_ 48), (0, u "java/lang/CharSequence$1CodePointIterator"), (10, .class_ 60), (0, u "java/lang/CharSequence$1CharIterator"), (5, .class_ 67), (0, u "java/lang/Object")] 63

/-- java/lang/CharSequence -/
def k4 : Class := { plain "java/lang/CharSequence" (some 0) with
  accessFlags := 1537
  interfaces := #[]
  cf := some (fileOf pool4 2 #[.nestMembers #[47, 59]] #[] 1537 66 #[] #[])
  fields := #[]
  methods := #[]
  instanceTypes := #[]
  staticTypes := #[]
  resolved := Array.replicate 131 none
  statics := none }

def pool5 : Array CpInfo := pool [(1, .class_ 2), (0, u "java/lang/constant/Constable"), (0, .class_ 4), (0, u "java/lang/Object")] 6

/-- java/lang/constant/Constable -/
def k5 : Class := { plain "java/lang/constant/Constable" (some 0) with
  accessFlags := 1537
  interfaces := #[]
  cf := some (fileOf pool5 1 #[] #[] 1537 3 #[] #[])
  fields := #[]
  methods := #[]
  instanceTypes := #[]
  staticTypes := #[]
  resolved := Array.replicate 11 none
  statics := none }

def pool6 : Array CpInfo := pool [(1, .class_ 2), (0, u "java/lang/constant/ConstantDesc"), (0, .class_ 4), (0, u "java/lang/Object")] 32

/-- java/lang/constant/ConstantDesc -/
def k6 : Class := { plain "java/lang/constant/ConstantDesc" (some 0) with
  accessFlags := 1537
  interfaces := #[]
  cf := some (fileOf pool6 1 #[] #[] 1537 3 #[] #[])
  fields := #[]
  methods := #[]
  instanceTypes := #[]
  staticTypes := #[]
  resolved := Array.replicate 37 none
  statics := none }

def pool7 : Array CpInfo := pool [(1, .methodref 2 3), (0, .class_ 4), (0, .nameAndType 5 6), (0, u "java/lang/Object"), (0, u "<init>"), (0, u "()V"), (2, .fieldref 10 11), (0, .class_ 12), (0, .nameAndType 13 14), (0, u "java/lang/String"), (0, u "value"), (0, u "[B"), (0, .fieldref 10 16), (0, .nameAndType 17 18), (0, u "coder"), (0, u "B"), (2, u "hash"), (0, u "I"), (2, u "hashIsZero"), (0, u "Z"), (0, .methodref 10 28), (0, .nameAndType 5 29), (0, u "([CIILjava/lang/Void;)V"), (6, u "checkBoundsOffCount"), (0, u "(III)I"), (0, .fieldref 10 39), (0, .nameAndType 40 26), (0, u "COMPACT_STRINGS"), (1, .class_ 44), (1, u "java/lang/StringUTF16"), (0, u "compress"), (1, .methodref 42 48), (0, .nameAndType 49 50), (0, u "coderFromArrayLen"), (0, u "([BI)B"), (2, u "toBytes"), (0, .methodref 55 56), (0, .class_ 57), (0, .nameAndType 58 59), (0, u "java/util/Arrays"), (0, u "copyOfRange"), (0, u "([BII)[B"), (46, .methodref 107 108), (0, .class_ 109), (0, .nameAndType 110 111), (0, u "java/lang/StringLatin1"), (0, u "inflate"), (0, u "([BI[BII)V"), (30, u "()Z"), (34, .methodref 42 178), (0, .nameAndType 45 179), (0, u "([CII)[B"), (13, .class_ 195), (1, u "java/lang/System"), (13, .methodref 10 210), (0, .nameAndType 5 211), (0, u "([BB)V"), (0, .methodref 193 213), (0, .nameAndType 214 215), (0, u "arraycopy"), (0, u "(Ljava/lang/Object;ILjava/lang/Object;II)V"), (118, u "()I"), (0, .methodref 10 336), (0, .nameAndType 17 337), (0, u "()B"), (2, u "()[B"), (22, u "([BI)C"), (5, u "(C)Z"), (21, u "(II)V"), (35, u "(I)C"), (61, .methodref 10 490), (0, .nameAndType 5 491), (0, u "(Ljava/lang/AbstractStringBuilder;Ljava/lang/Void;)V"), (0, .methodref 10 493), (0, .nameAndType 494 142), (0, u "isLatin1"), (0, .methodref 107 496), (0, .nameAndType 497 363), (0, u "charAt"), (0, .methodref 42 496), (2, u "checkIndex"), (4, .nameAndType 507 334), (0, u "length"), (24, u "getBytes"), (16, .methodref 550 506), (0, .class_ 551), (0, u "java/lang/AbstractStringBuilder"), (0, .methodref 550 553), (0, .nameAndType 554 340), (0, u "getValue"), (20, .class_ 576), (0, u "java/lang/CharSequence"), (22, u "CASE_INSENSITIVE_ORDER"), (0, u "Ljava/util/Comparator;"), (181, u "valueOf"), (0, u "(C)Ljava/lang/String;"), (37, u "([BIB)V"), (188, u "([C)V"), (4, .methodref 107 1016), (0, .nameAndType 1017 369), (0, u "canEncode"), (0, .methodref 107 1019), (0, .nameAndType 53 1020), (0, u "(C)[B"), (0, .methodref 42 1019), (25, .methodref 550 493), (0, .fieldref 550 1049), (0, .nameAndType 1050 26), (0, u "maybeLatin1"), (2, .fieldref 1054 1055), (0, .class_ 1056), (0, .nameAndType 1057 1058), (0, u "jdk/internal/util/Preconditions"), (0, u "SIOOBE_FORMATTER"), (0, u "Ljava/util/function/BiFunction;"), (0, .methodref 1054 1060), (0, .nameAndType 501 1061), (0, u "(IILjava/util/function/BiFunction;)I"), (2, u "(IIILjava/util/function/BiFunction;)I"), (0, .methodref 1054 1066), (0, .nameAndType 1067 1064), (0, u "checkFromIndexSize"), (33, u "serialPersistentFields"), (0, u "[Ljava/io/ObjectStreamField;"), (0, .class_ 1104), (0, u "java/lang/String$CaseInsensitiveComparator"), (1, .class_ 1107), (0, u "java/io/Serializable"), (0, .class_ 1109), (0, u "java/lang/Comparable"), (0, .class_ 1111), (0, u "java/lang/constant/Constable"), (0, .class_ 1113), (0, u "java/lang/constant/ConstantDesc"), (2, u "serialVersionUID"), (0, u "J"), (3, u "REPL"), (0, u "C"), (2, u "LATIN1"), (1, u "UTF16"), (105, u "(Ljava/lang/StringBuilder;)V")] 217

def k7m0 : Method := { name := "<init>", desc := "()V", sig := { parameters := [], returnType := none }, accessFlags := 1, code := none }
def k7c1 : Code := { maxStack := 5, maxLocals := 2, code := jdk_42_method_3_code, exceptionTable := #[], attributes := #[] }
def k7m1 : Method := { name := "<init>", desc := "([C)V", sig := { parameters := [(.array .char)], returnType := none }, accessFlags := 1, code := some k7c1 }
def k7c2 : Code := { maxStack := 3, maxLocals := 2, code := jdk_42_method_53_code, exceptionTable := #[], attributes := #[] }
def k7m2 : Method := { name := "<init>", desc := "(Ljava/lang/StringBuilder;)V", sig := { parameters := [(.object "java/lang/StringBuilder")], returnType := none }, accessFlags := 1, code := some k7c2 }
def k7c3 : Code := { maxStack := 2, maxLocals := 1, code := jdk_42_method_54_code, exceptionTable := #[], attributes := #[] }
def k7m3 : Method := { name := "length", desc := "()I", sig := { parameters := [], returnType := some .int }, accessFlags := 1, code := some k7c3 }
def k7c4 : Code := { maxStack := 2, maxLocals := 2, code := jdk_42_method_56_code, exceptionTable := #[], attributes := #[] }
def k7m4 : Method := { name := "charAt", desc := "(I)C", sig := { parameters := [.int], returnType := some .char }, accessFlags := 1, code := some k7c4 }
def k7c5 : Code := { maxStack := 4, maxLocals := 1, code := jdk_42_method_139_code, exceptionTable := #[], attributes := #[] }
def k7m5 : Method := { name := "valueOf", desc := "(C)Ljava/lang/String;", sig := { parameters := [.char], returnType := some (.object "java/lang/String") }, accessFlags := 9, code := some k7c5 }
def k7c6 : Code := { maxStack := 5, maxLocals := 4, code := jdk_42_method_147_code, exceptionTable := #[], attributes := #[] }
def k7m6 : Method := { name := "getBytes", desc := "([BIB)V", sig := { parameters := [(.array .byte), .int, .byte], returnType := none }, accessFlags := 0, code := some k7c6 }
def k7c7 : Code := { maxStack := 4, maxLocals := 6, code := jdk_42_method_149_code, exceptionTable := #[], attributes := #[] }
def k7m7 : Method := { name := "<init>", desc := "([CIILjava/lang/Void;)V", sig := { parameters := [(.array .char), .int, .int, (.object "java/lang/Void")], returnType := none }, accessFlags := 2, code := some k7c7 }
def k7c8 : Code := { maxStack := 5, maxLocals := 5, code := jdk_42_method_150_code, exceptionTable := #[], attributes := #[] }
def k7m8 : Method := { name := "<init>", desc := "(Ljava/lang/AbstractStringBuilder;Ljava/lang/Void;)V", sig := { parameters := [(.object "java/lang/AbstractStringBuilder"), (.object "java/lang/Void")], returnType := none }, accessFlags := 0, code := some k7c8 }
def k7c9 : Code := { maxStack := 2, maxLocals := 3, code := jdk_42_method_151_code, exceptionTable := #[], attributes := #[] }
def k7m9 : Method := { name := "<init>", desc := "([BB)V", sig := { parameters := [(.array .byte), .byte], returnType := none }, accessFlags := 0, code := some k7c9 }
def k7c10 : Code := { maxStack := 1, maxLocals := 1, code := jdk_42_method_152_code, exceptionTable := #[], attributes := #[] }
def k7m10 : Method := { name := "coder", desc := "()B", sig := { parameters := [], returnType := some .byte }, accessFlags := 0, code := some k7c10 }
def k7c11 : Code := { maxStack := 1, maxLocals := 1, code := jdk_42_method_154_code, exceptionTable := #[], attributes := #[] }
def k7m11 : Method := { name := "isLatin1", desc := "()Z", sig := { parameters := [], returnType := some .boolean }, accessFlags := 0, code := some k7c11 }
def k7c12 : Code := { maxStack := 3, maxLocals := 2, code := jdk_42_method_155_code, exceptionTable := #[], attributes := #[] }
def k7m12 : Method := { name := "checkIndex", desc := "(II)V", sig := { parameters := [.int, .int], returnType := none }, accessFlags := 8, code := some k7c12 }
def k7c13 : Code := { maxStack := 4, maxLocals := 3, code := jdk_42_method_157_code, exceptionTable := #[], attributes := #[] }
def k7m13 : Method := { name := "checkBoundsOffCount", desc := "(III)I", sig := { parameters := [.int, .int, .int], returnType := some .int }, accessFlags := 8, code := some k7c13 }
/-- java/lang/String -/
def k7 : Class := { plain "java/lang/String" (some 0) with
  accessFlags := 49
  interfaces := #[2, 3, 4, 5, 6]
  cf := some (fileOf pool7 10 #[.nestMembers #[1103]] #[{ accessFlags := 1, nameIndex := 5, descriptorIndex := 6, attributes := #[] }, { accessFlags := 1, nameIndex := 5, descriptorIndex := 1010, attributes := #[] }, { accessFlags := 1, nameIndex := 5, descriptorIndex := 1233, attributes := #[] }, { accessFlags := 1, nameIndex := 507, descriptorIndex := 334, attributes := #[] }, { accessFlags := 1, nameIndex := 497, descriptorIndex := 427, attributes := #[] }, { accessFlags := 9, nameIndex := 782, descriptorIndex := 783, attributes := #[] }, { accessFlags := 0, nameIndex := 532, descriptorIndex := 821, attributes := #[] }, { accessFlags := 2, nameIndex := 5, descriptorIndex := 29, attributes := #[] }, { accessFlags := 0, nameIndex := 5, descriptorIndex := 491, attributes := #[] }, { accessFlags := 0, nameIndex := 5, descriptorIndex := 211, attributes := #[] }, { accessFlags := 0, nameIndex := 17, descriptorIndex := 337, attributes := #[] }, { accessFlags := 0, nameIndex := 494, descriptorIndex := 142, attributes := #[] }, { accessFlags := 8, nameIndex := 501, descriptorIndex := 391, attributes := #[] }, { accessFlags := 8, nameIndex := 36, descriptorIndex := 37, attributes := #[] }] 49 2 #[1106, 1108, 575, 1110, 1112] #[{ accessFlags := 18, nameIndex := 13, descriptorIndex := 14, attributes := #[] }, { accessFlags := 18, nameIndex := 17, descriptorIndex := 18, attributes := #[] }, { accessFlags := 2, nameIndex := 21, descriptorIndex := 22, attributes := #[] }, { accessFlags := 2, nameIndex := 25, descriptorIndex := 26, attributes := #[] }, { accessFlags := 26, nameIndex := 1116, descriptorIndex := 1117, attributes := #[] }, { accessFlags := 24, nameIndex := 40, descriptorIndex := 26, attributes := #[] }, { accessFlags := 26, nameIndex := 1101, descriptorIndex := 1102, attributes := #[] }, { accessFlags := 26, nameIndex := 1121, descriptorIndex := 1122, attributes := #[] }, { accessFlags := 25, nameIndex := 599, descriptorIndex := 600, attributes := #[] }, { accessFlags := 24, nameIndex := 1125, descriptorIndex := 18, attributes := #[] }, { accessFlags := 24, nameIndex := 1127, descriptorIndex := 18, attributes := #[] }])
  fields := #[{ name := "value", type := (.array .byte), accessFlags := 18, slot := 0, constantValue := 0 }, { name := "coder", type := .byte, accessFlags := 18, slot := 1, constantValue := 0 }, { name := "hash", type := .int, accessFlags := 2, slot := 2, constantValue := 0 }, { name := "hashIsZero", type := .boolean, accessFlags := 2, slot := 3, constantValue := 0 }, { name := "serialVersionUID", type := .long, accessFlags := 26, slot := 0, constantValue := 0 }, { name := "COMPACT_STRINGS", type := .boolean, accessFlags := 24, slot := 1, constantValue := 0 }, { name := "serialPersistentFields", type := (.array (.object "java/io/ObjectStreamField")), accessFlags := 26, slot := 2, constantValue := 0 }, { name := "REPL", type := .char, accessFlags := 26, slot := 3, constantValue := 0 }, { name := "CASE_INSENSITIVE_ORDER", type := (.object "java/util/Comparator"), accessFlags := 25, slot := 4, constantValue := 0 }, { name := "LATIN1", type := .byte, accessFlags := 24, slot := 5, constantValue := 0 }, { name := "UTF16", type := .byte, accessFlags := 24, slot := 6, constantValue := 0 }]
  methods := #[k7m0, k7m1, k7m2, k7m3, k7m4, k7m5, k7m6, k7m7, k7m8, k7m9, k7m10, k7m11, k7m12, k7m13]
  instanceTypes := #[(.array .byte), .byte, .int, .boolean]
  staticTypes := #[.long, .boolean, (.array (.object "java/io/ObjectStreamField")), .char, (.object "java/util/Comparator"), .byte, .byte]
  resolved := Array.replicate 1451 none
  statics := some 0 }

def pool8 : Array CpInfo := pool [(3, .class_ 4), (0, u "java/lang/String"), (1, .class_ 8), (1, u "java/lang/Object"), (0, u "<init>"), (0, u "()V"), (0, .methodref 12 13), (0, .class_ 14), (0, .nameAndType 15 16), (0, u "java/lang/StringUTF16"), (0, u "newBytesLength"), (0, u "(I)I"), (3, .integer 1073741823), (23, .fieldref 12 45), (0, .nameAndType 46 47), (0, u "$assertionsDisabled"), (0, u "Z"), (0, .methodref 12 49), (0, .nameAndType 50 51), (0, u "length"), (0, u "([B)I"), (7, .fieldref 12 60), (0, .nameAndType 61 62), (0, u "HI_BYTE_SHIFT"), (0, u "I"), (0, .fieldref 12 64), (0, .nameAndType 65 62), (0, u "LO_BYTE_SHIFT"), (1, .methodref 12 68), (0, .nameAndType 69 70), (0, u "checkIndex"), (0, u "(I[B)V"), (0, .methodref 12 72), (0, .nameAndType 73 74), (0, u "getChar"), (0, u "([BI)C"), (24, u "(II[B)V"), (7, .methodref 12 108), (0, .nameAndType 109 110), (0, u "newBytesFor"), (0, u "(I)[B"), (0, .methodref 12 112), (0, .nameAndType 113 114), (0, u "putChar"), (0, u "([BII)V"), (0, .methodref 12 116), (0, .nameAndType 117 118), (0, u "compress"), (0, u "([CI[BII)I"), (0, .methodref 12 120), (0, .nameAndType 121 122), (0, u "toBytes"), (0, u "([CII)[B"), (17, u "inflate"), (0, u "([BI[BII)V"), (31, .methodref 12 174), (0, .nameAndType 175 99), (0, u "checkBoundsOffCount"), (85, u "coderFromArrayLen"), (0, u "([BI)B"), (18, u "(III)I"), (87, .class_ 371), (1, u "java/lang/StringUTF16$LinesSpliterator"), (20, u "charAt"), (21, .methodref 3 415), (0, .nameAndType 69 416), (0, u "(II)V"), (2, .methodref 3 420), (0, .nameAndType 175 281), (9, u "MAX_LENGTH"), (44, u "(C)[B"), (151, .class_ 628), (0, u "java/lang/StringUTF16$CodePointsSpliterator"), (0, .class_ 630), (0, u "java/lang/StringUTF16$CharsSpliterator")] 4

def k8m0 : Method := { name := "<init>", desc := "()V", sig := { parameters := [], returnType := none }, accessFlags := 0, code := none }
def k8c1 : Code := { maxStack := 1, maxLocals := 1, code := jdk_52_method_2_code, exceptionTable := #[], attributes := #[] }
def k8m1 : Method := { name := "newBytesFor", desc := "(I)[B", sig := { parameters := [.int], returnType := some (.array .byte) }, accessFlags := 9, code := some k8c1 }
def k8c2 : Code := { maxStack := 4, maxLocals := 1, code := jdk_52_method_3_code, exceptionTable := #[], attributes := #[] }
def k8m2 : Method := { name := "newBytesLength", desc := "(I)I", sig := { parameters := [.int], returnType := some .int }, accessFlags := 9, code := some k8c2 }
def k8c3 : Code := { maxStack := 4, maxLocals := 3, code := jdk_52_method_4_code, exceptionTable := #[], attributes := #[] }
def k8m3 : Method := { name := "putChar", desc := "([BII)V", sig := { parameters := [(.array .byte), .int, .int], returnType := none }, accessFlags := 8, code := some k8c3 }
def k8c4 : Code := { maxStack := 3, maxLocals := 2, code := jdk_52_method_5_code, exceptionTable := #[], attributes := #[] }
def k8m4 : Method := { name := "getChar", desc := "([BI)C", sig := { parameters := [(.array .byte), .int], returnType := some .char }, accessFlags := 8, code := some k8c4 }
def k8c5 : Code := { maxStack := 2, maxLocals := 1, code := jdk_52_method_6_code, exceptionTable := #[], attributes := #[] }
def k8m5 : Method := { name := "length", desc := "([B)I", sig := { parameters := [(.array .byte)], returnType := some .int }, accessFlags := 9, code := some k8c5 }
def k8c6 : Code := { maxStack := 4, maxLocals := 5, code := jdk_52_method_14_code, exceptionTable := #[], attributes := #[] }
def k8m6 : Method := { name := "toBytes", desc := "([CII)[B", sig := { parameters := [(.array .char), .int, .int], returnType := some (.array .byte) }, accessFlags := 9, code := some k8c6 }
def k8c7 : Code := { maxStack := 2, maxLocals := 2, code := jdk_52_method_15_code, exceptionTable := #[], attributes := #[] }
def k8m7 : Method := { name := "coderFromArrayLen", desc := "([BI)B", sig := { parameters := [(.array .byte), .int], returnType := some .byte }, accessFlags := 8, code := some k8c7 }
def k8c8 : Code := { maxStack := 5, maxLocals := 6, code := jdk_52_method_16_code, exceptionTable := #[], attributes := #[] }
def k8m8 : Method := { name := "compress", desc := "([CII)[B", sig := { parameters := [(.array .char), .int, .int], returnType := some (.array .byte) }, accessFlags := 9, code := some k8c8 }
def k8c9 : Code := { maxStack := 3, maxLocals := 7, code := jdk_52_method_21_code, exceptionTable := #[], attributes := #[] }
def k8m9 : Method := { name := "compress", desc := "([CI[BII)I", sig := { parameters := [(.array .char), .int, (.array .byte), .int, .int], returnType := some .int }, accessFlags := 9, code := some k8c9 }
def k8c10 : Code := { maxStack := 3, maxLocals := 2, code := jdk_52_method_24_code, exceptionTable := #[], attributes := #[] }
def k8m10 : Method := { name := "toBytes", desc := "(C)[B", sig := { parameters := [.char], returnType := some (.array .byte) }, accessFlags := 9, code := some k8c10 }
def k8c11 : Code := { maxStack := 2, maxLocals := 2, code := jdk_52_method_83_code, exceptionTable := #[], attributes := #[] }
def k8m11 : Method := { name := "charAt", desc := "([BI)C", sig := { parameters := [(.array .byte), .int], returnType := some .char }, accessFlags := 9, code := some k8c11 }
def k8c12 : Code := { maxStack := 4, maxLocals := 6, code := jdk_52_method_86_code, exceptionTable := #[], attributes := #[] }
def k8m12 : Method := { name := "inflate", desc := "([BI[BII)V", sig := { parameters := [(.array .byte), .int, (.array .byte), .int, .int], returnType := none }, accessFlags := 9, code := some k8c12 }
def k8c13 : Code := { maxStack := 2, maxLocals := 2, code := jdk_52_method_91_code, exceptionTable := #[], attributes := #[] }
def k8m13 : Method := { name := "checkIndex", desc := "(I[B)V", sig := { parameters := [.int, (.array .byte)], returnType := none }, accessFlags := 9, code := some k8c13 }
def k8c14 : Code := { maxStack := 3, maxLocals := 3, code := jdk_52_method_94_code, exceptionTable := #[], attributes := #[] }
def k8m14 : Method := { name := "checkBoundsOffCount", desc := "(II[B)V", sig := { parameters := [.int, .int, (.array .byte)], returnType := none }, accessFlags := 9, code := some k8c14 }
/-- java/lang/StringUTF16 -/
def k8 : Class := { plain "java/lang/StringUTF16" (some 0) with
  accessFlags := 48
  interfaces := #[]
  cf := some (fileOf pool8 12 #[.nestMembers #[627, 629, 369]] #[{ accessFlags := 0, nameIndex := 9, descriptorIndex := 10, attributes := #[] }, { accessFlags := 9, nameIndex := 109, descriptorIndex := 110, attributes := #[] }, { accessFlags := 9, nameIndex := 15, descriptorIndex := 16, attributes := #[] }, { accessFlags := 8, nameIndex := 113, descriptorIndex := 114, attributes := #[] }, { accessFlags := 8, nameIndex := 73, descriptorIndex := 74, attributes := #[] }, { accessFlags := 9, nameIndex := 50, descriptorIndex := 51, attributes := #[] }, { accessFlags := 9, nameIndex := 121, descriptorIndex := 122, attributes := #[] }, { accessFlags := 8, nameIndex := 261, descriptorIndex := 262, attributes := #[] }, { accessFlags := 9, nameIndex := 117, descriptorIndex := 122, attributes := #[] }, { accessFlags := 9, nameIndex := 117, descriptorIndex := 118, attributes := #[] }, { accessFlags := 9, nameIndex := 121, descriptorIndex := 475, attributes := #[] }, { accessFlags := 9, nameIndex := 392, descriptorIndex := 74, attributes := #[] }, { accessFlags := 9, nameIndex := 140, descriptorIndex := 141, attributes := #[] }, { accessFlags := 9, nameIndex := 69, descriptorIndex := 70, attributes := #[] }, { accessFlags := 9, nameIndex := 175, descriptorIndex := 99, attributes := #[] }] 48 6 #[] #[{ accessFlags := 26, nameIndex := 61, descriptorIndex := 62, attributes := #[] }, { accessFlags := 26, nameIndex := 65, descriptorIndex := 62, attributes := #[] }, { accessFlags := 24, nameIndex := 430, descriptorIndex := 62, attributes := #[] }, { accessFlags := 4120, nameIndex := 46, descriptorIndex := 47, attributes := #[] }])
  fields := #[{ name := "HI_BYTE_SHIFT", type := .int, accessFlags := 26, slot := 0, constantValue := 0 }, { name := "LO_BYTE_SHIFT", type := .int, accessFlags := 26, slot := 1, constantValue := 0 }, { name := "MAX_LENGTH", type := .int, accessFlags := 24, slot := 2, constantValue := 0 }, { name := "$assertionsDisabled", type := .boolean, accessFlags := 4120, slot := 3, constantValue := 0 }]
  methods := #[k8m0, k8m1, k8m2, k8m3, k8m4, k8m5, k8m6, k8m7, k8m8, k8m9, k8m10, k8m11, k8m12, k8m13, k8m14]
  instanceTypes := #[]
  staticTypes := #[.int, .int, .int, .boolean]
  resolved := Array.replicate 635 none
  statics := some 1 }

def pool9 : Array CpInfo := pool [(1, .methodref 2 3), (0, .class_ 4), (0, .nameAndType 5 6), (0, u "java/lang/Object"), (0, u "<init>"), (0, u "()V"), (0, .class_ 8), (0, u "java/lang/Record")] 13

def k9c0 : Code := { maxStack := 1, maxLocals := 1, code := jdk_30_method_1_code, exceptionTable := #[], attributes := #[] }
def k9m0 : Method := { name := "<init>", desc := "()V", sig := { parameters := [], returnType := none }, accessFlags := 4, code := some k9c0 }
/-- java/lang/Record -/
def k9 : Class := { plain "java/lang/Record" (some 0) with
  accessFlags := 1057
  interfaces := #[]
  cf := some (fileOf pool9 7 #[] #[{ accessFlags := 4, nameIndex := 5, descriptorIndex := 6, attributes := #[] }] 1057 2 #[] #[])
  fields := #[]
  methods := #[k9m0]
  instanceTypes := #[]
  staticTypes := #[]
  resolved := Array.replicate 22 none
  statics := none }

def pool10 : Array CpInfo := pool [(1, .methodref 2 3), (0, .class_ 4), (0, .nameAndType 5 6), (0, u "java/lang/Record"), (0, u "<init>"), (0, u "()V"), (0, .fieldref 8 9), (0, .class_ 10), (0, .nameAndType 11 12), (0, u "com/example/tuikuan/tuikuan/Usage$Option"), (0, u "name"), (0, u "Ljava/lang/String;"), (0, .fieldref 8 14), (0, .nameAndType 15 12), (0, u "value"), (0, .fieldref 8 17), (0, .nameAndType 18 12), (0, u "meaning"), (0, .class_ 20), (0, u "java/lang/StringBuilder"), (0, .methodref 19 3), (0, .methodref 19 23), (0, .nameAndType 24 25), (0, u "append"), (0, u "(Ljava/lang/String;)Ljava/lang/StringBuilder;"), (0, .string 27), (0, u " "), (0, .methodref 19 29), (0, .nameAndType 30 31), (0, u "toString"), (0, u "()Ljava/lang/String;"), (11, u "(Ljava/lang/String;Ljava/lang/String;Ljava/lang/String;)V"), (3, u "synopsis"), (5, .class_ 54), (0, u "com/example/tuikuan/tuikuan/Usage")] 21

def k10c0 : Code := { maxStack := 2, maxLocals := 4, code := prog_35_method_1_code, exceptionTable := #[], attributes := #[] }
def k10m0 : Method := { name := "<init>", desc := "(Ljava/lang/String;Ljava/lang/String;Ljava/lang/String;)V", sig := { parameters := [(.object "java/lang/String"), (.object "java/lang/String"), (.object "java/lang/String")], returnType := none }, accessFlags := 0, code := some k10c0 }
def k10c1 : Code := { maxStack := 2, maxLocals := 1, code := prog_35_method_2_code, exceptionTable := #[], attributes := #[] }
def k10m1 : Method := { name := "synopsis", desc := "()Ljava/lang/String;", sig := { parameters := [], returnType := some (.object "java/lang/String") }, accessFlags := 0, code := some k10c1 }
/-- com/example/tuikuan/tuikuan/Usage$Option -/
def k10 : Class := { plain "com/example/tuikuan/tuikuan/Usage$Option" (some 9) with
  accessFlags := 48
  interfaces := #[]
  cf := some (fileOf pool10 8 #[.nestHost 53] #[{ accessFlags := 0, nameIndex := 5, descriptorIndex := 43, attributes := #[] }, { accessFlags := 0, nameIndex := 47, descriptorIndex := 31, attributes := #[] }] 48 2 #[] #[{ accessFlags := 18, nameIndex := 11, descriptorIndex := 12, attributes := #[] }, { accessFlags := 18, nameIndex := 15, descriptorIndex := 12, attributes := #[] }, { accessFlags := 18, nameIndex := 18, descriptorIndex := 12, attributes := #[] }])
  fields := #[{ name := "name", type := (.object "java/lang/String"), accessFlags := 18, slot := 0, constantValue := 0 }, { name := "value", type := (.object "java/lang/String"), accessFlags := 18, slot := 1, constantValue := 0 }, { name := "meaning", type := (.object "java/lang/String"), accessFlags := 18, slot := 2, constantValue := 0 }]
  methods := #[k10m0, k10m1]
  instanceTypes := #[(.object "java/lang/String"), (.object "java/lang/String"), (.object "java/lang/String")]
  staticTypes := #[]
  resolved := Array.replicate 76 none
  statics := none }

def pool11 : Array CpInfo := pool [(1, .class_ 2), (0, u "java/lang/Appendable"), (0, .class_ 4), (0, u "java/lang/Object")] 9

/-- java/lang/Appendable -/
def k11 : Class := { plain "java/lang/Appendable" (some 0) with
  accessFlags := 1537
  interfaces := #[]
  cf := some (fileOf pool11 1 #[] #[] 1537 3 #[] #[])
  fields := #[]
  methods := #[]
  instanceTypes := #[]
  staticTypes := #[]
  resolved := Array.replicate 14 none
  statics := none }

def pool12 : Array CpInfo := pool [(1, .class_ 2), (0, u "java/lang/String"), (0, .methodref 4 5), (0, .class_ 6), (0, .nameAndType 7 8), (0, u "java/lang/Object"), (0, u "<init>"), (0, u "()V"), (1, .class_ 12), (1, u "java/lang/AbstractStringBuilder"), (0, u "EMPTYVALUE"), (0, u "[B"), (0, .fieldref 10 16), (0, .nameAndType 17 14), (0, u "value"), (0, .fieldref 1 19), (0, .nameAndType 20 21), (0, u "COMPACT_STRINGS"), (0, u "Z"), (0, .fieldref 10 23), (0, .nameAndType 24 25), (0, u "coder"), (0, u "B"), (0, .methodref 27 28), (0, .class_ 29), (0, .nameAndType 30 31), (0, u "java/lang/StringUTF16"), (0, u "newBytesFor"), (0, u "(I)[B"), (0, .methodref 1 33), (0, .nameAndType 34 35), (0, u "length"), (0, u "()I"), (4, .methodref 1 41), (0, .nameAndType 24 42), (0, u "()B"), (2, u "append"), (0, u "(Ljava/lang/String;)Ljava/lang/AbstractStringBuilder;"), (1, .class_ 49), (0, u "java/lang/CharSequence"), (19, u "(Ljava/lang/String;)V"), (5, u "maybeLatin1"), (3, .fieldref 10 80), (0, .nameAndType 81 82), (0, u "count"), (0, u "I"), (0, .methodref 10 84), (0, .nameAndType 85 86), (0, u "isLatin1"), (0, u "()Z"), (1, .class_ 90), (1, u "java/lang/StringLatin1"), (9, .methodref 10 101), (0, .nameAndType 102 103), (0, u "ensureCapacityInternal"), (0, u "(I)V"), (21, .methodref 88 126), (0, .nameAndType 127 128), (0, u "inflate"), (0, u "([BI[BII)V"), (66, .methodref 10 196), (0, .nameAndType 127 8), (11, .methodref 10 209), (0, .nameAndType 210 211), (0, u "putStringAt"), (0, u "(ILjava/lang/String;)V"), (5, u "inflateIfNeededFor"), (2, .nameAndType 221 222), (0, u "getBytes"), (0, u "([BIB)V"), (174, .methodref 10 398), (0, .nameAndType 217 69), (0, .methodref 1 220), (3, u "()[B"), (40, .class_ 445), (0, u "java/lang/Appendable"), (106, u "getValue")] 56

def k12m0 : Method := { name := "<init>", desc := "()V", sig := { parameters := [], returnType := none }, accessFlags := 0, code := none }
def k12c1 : Code := { maxStack := 2, maxLocals := 2, code := jdk_68_method_2_code, exceptionTable := #[], attributes := #[] }
def k12m1 : Method := { name := "<init>", desc := "(I)V", sig := { parameters := [.int], returnType := none }, accessFlags := 0, code := some k12c1 }
def k12c2 : Code := { maxStack := 1, maxLocals := 1, code := jdk_68_method_6_code, exceptionTable := #[], attributes := #[] }
def k12m2 : Method := { name := "length", desc := "()I", sig := { parameters := [], returnType := some .int }, accessFlags := 1, code := some k12c2 }
def k12c3 : Code := { maxStack := 4, maxLocals := 3, code := jdk_68_method_9_code, exceptionTable := #[], attributes := #[] }
def k12m3 : Method := { name := "ensureCapacityInternal", desc := "(I)V", sig := { parameters := [.int], returnType := none }, accessFlags := 2, code := some k12c3 }
def k12c4 : Code := { maxStack := 5, maxLocals := 2, code := jdk_68_method_11_code, exceptionTable := #[], attributes := #[] }
def k12m4 : Method := { name := "inflate", desc := "()V", sig := { parameters := [], returnType := none }, accessFlags := 2, code := some k12c4 }
def k12c5 : Code := { maxStack := 3, maxLocals := 3, code := jdk_68_method_22_code, exceptionTable := #[], attributes := #[] }
def k12m5 : Method := { name := "append", desc := "(Ljava/lang/String;)Ljava/lang/AbstractStringBuilder;", sig := { parameters := [(.object "java/lang/String")], returnType := some (.object "java/lang/AbstractStringBuilder") }, accessFlags := 1, code := some k12c5 }
def k12c6 : Code := { maxStack := 1, maxLocals := 1, code := jdk_68_method_64_code, exceptionTable := #[], attributes := #[] }
def k12m6 : Method := { name := "getValue", desc := "()[B", sig := { parameters := [], returnType := some (.array .byte) }, accessFlags := 16, code := some k12c6 }
def k12c7 : Code := { maxStack := 1, maxLocals := 1, code := jdk_68_method_68_code, exceptionTable := #[], attributes := #[] }
def k12m7 : Method := { name := "isLatin1", desc := "()Z", sig := { parameters := [], returnType := some .boolean }, accessFlags := 16, code := some k12c7 }
def k12c8 : Code := { maxStack := 2, maxLocals := 2, code := jdk_68_method_71_code, exceptionTable := #[], attributes := #[] }
def k12m8 : Method := { name := "inflateIfNeededFor", desc := "(Ljava/lang/String;)V", sig := { parameters := [(.object "java/lang/String")], returnType := none }, accessFlags := 2, code := some k12c8 }
def k12c9 : Code := { maxStack := 4, maxLocals := 3, code := jdk_68_method_73_code, exceptionTable := #[], attributes := #[] }
def k12m9 : Method := { name := "putStringAt", desc := "(ILjava/lang/String;)V", sig := { parameters := [.int, (.object "java/lang/String")], returnType := none }, accessFlags := 2, code := some k12c9 }
/-- java/lang/AbstractStringBuilder -/
def k12 : Class := { plain "java/lang/AbstractStringBuilder" (some 0) with
  accessFlags := 1056
  interfaces := #[11, 4]
  cf := some (fileOf pool12 10 #[] #[{ accessFlags := 0, nameIndex := 7, descriptorIndex := 8, attributes := #[] }, { accessFlags := 0, nameIndex := 7, descriptorIndex := 103, attributes := #[] }, { accessFlags := 1, nameIndex := 34, descriptorIndex := 35, attributes := #[] }, { accessFlags := 2, nameIndex := 102, descriptorIndex := 103, attributes := #[] }, { accessFlags := 2, nameIndex := 127, descriptorIndex := 8, attributes := #[] }, { accessFlags := 1, nameIndex := 45, descriptorIndex := 46, attributes := #[] }, { accessFlags := 16, nameIndex := 552, descriptorIndex := 403, attributes := #[] }, { accessFlags := 16, nameIndex := 85, descriptorIndex := 86, attributes := #[] }, { accessFlags := 2, nameIndex := 217, descriptorIndex := 69, attributes := #[] }, { accessFlags := 2, nameIndex := 210, descriptorIndex := 211, attributes := #[] }] 1056 4 #[444, 48] #[{ accessFlags := 0, nameIndex := 17, descriptorIndex := 14, attributes := #[] }, { accessFlags := 0, nameIndex := 24, descriptorIndex := 25, attributes := #[] }, { accessFlags := 0, nameIndex := 75, descriptorIndex := 21, attributes := #[] }, { accessFlags := 0, nameIndex := 81, descriptorIndex := 82, attributes := #[] }, { accessFlags := 26, nameIndex := 13, descriptorIndex := 14, attributes := #[] }])
  fields := #[{ name := "value", type := (.array .byte), accessFlags := 0, slot := 0, constantValue := 0 }, { name := "coder", type := .byte, accessFlags := 0, slot := 1, constantValue := 0 }, { name := "maybeLatin1", type := .boolean, accessFlags := 0, slot := 2, constantValue := 0 }, { name := "count", type := .int, accessFlags := 0, slot := 3, constantValue := 0 }, { name := "EMPTYVALUE", type := (.array .byte), accessFlags := 26, slot := 0, constantValue := 0 }]
  methods := #[k12m0, k12m1, k12m2, k12m3, k12m4, k12m5, k12m6, k12m7, k12m8, k12m9]
  instanceTypes := #[(.array .byte), .byte, .boolean, .int]
  staticTypes := #[(.array .byte)]
  resolved := Array.replicate 609 none
  statics := none }

def pool13 : Array CpInfo := pool [(1, .methodref 2 3), (0, .class_ 4), (0, .nameAndType 5 6), (0, u "java/lang/AbstractStringBuilder"), (0, u "<init>"), (0, u "(I)V"), (11, .class_ 20), (1, u "java/lang/String"), (3, .class_ 26), (1, u "java/lang/StringBuilder"), (0, u "append"), (0, u "(Ljava/lang/String;)Ljava/lang/StringBuilder;"), (0, .methodref 2 30), (0, .nameAndType 27 31), (0, u "(Ljava/lang/String;)Ljava/lang/AbstractStringBuilder;"), (105, .methodref 18 138), (0, .nameAndType 5 139), (0, u "(Ljava/lang/StringBuilder;)V"), (5, u "()V"), (10, u "()I"), (186, .methodref 2 344), (0, .nameAndType 345 156), (0, u "length"), (3, .class_ 350), (0, u "java/lang/Appendable"), (0, .class_ 352), (0, u "java/io/Serializable"), (0, .class_ 354), (0, u "java/lang/Comparable"), (0, .class_ 356), (0, u "java/lang/CharSequence"), (0, u "serialVersionUID"), (0, u "J"), (40, u "toString"), (0, u "()Ljava/lang/String;")] 21

def k13c0 : Code := { maxStack := 2, maxLocals := 1, code := jdk_67_method_1_code, exceptionTable := #[], attributes := #[] }
def k13m0 : Method := { name := "<init>", desc := "()V", sig := { parameters := [], returnType := none }, accessFlags := 1, code := some k13c0 }
def k13c1 : Code := { maxStack := 2, maxLocals := 2, code := jdk_67_method_7_code, exceptionTable := #[], attributes := #[] }
def k13m1 : Method := { name := "append", desc := "(Ljava/lang/String;)Ljava/lang/StringBuilder;", sig := { parameters := [(.object "java/lang/String")], returnType := some (.object "java/lang/StringBuilder") }, accessFlags := 1, code := some k13c1 }
def k13c2 : Code := { maxStack := 3, maxLocals := 1, code := jdk_67_method_42_code, exceptionTable := #[], attributes := #[] }
def k13m2 : Method := { name := "toString", desc := "()Ljava/lang/String;", sig := { parameters := [], returnType := some (.object "java/lang/String") }, accessFlags := 1, code := some k13c2 }
def k13c3 : Code := { maxStack := 1, maxLocals := 1, code := jdk_67_method_93_code, exceptionTable := #[], attributes := #[] }
def k13m3 : Method := { name := "length", desc := "()I", sig := { parameters := [], returnType := some .int }, accessFlags := 4161, code := some k13c3 }
/-- java/lang/StringBuilder -/
def k13 : Class := { plain "java/lang/StringBuilder" (some 12) with
  accessFlags := 49
  interfaces := #[11, 2, 3, 4]
  cf := some (fileOf pool13 24 #[] #[{ accessFlags := 1, nameIndex := 5, descriptorIndex := 145, attributes := #[] }, { accessFlags := 1, nameIndex := 27, descriptorIndex := 28, attributes := #[] }, { accessFlags := 1, nameIndex := 399, descriptorIndex := 400, attributes := #[] }, { accessFlags := 4161, nameIndex := 345, descriptorIndex := 156, attributes := #[] }] 49 2 #[349, 351, 353, 355] #[{ accessFlags := 24, nameIndex := 357, descriptorIndex := 358, attributes := #[] }])
  fields := #[{ name := "serialVersionUID", type := .long, accessFlags := 24, slot := 0, constantValue := 0 }]
  methods := #[k13m0, k13m1, k13m2, k13m3]
  instanceTypes := #[(.array .byte), .byte, .boolean, .int]
  staticTypes := #[.long]
  resolved := Array.replicate 422 none
  statics := none }

def pool14 : Array CpInfo := pool [(2, .class_ 4), (1, u "java/lang/Object"), (0, u "<init>"), (0, u "()V"), (1, .class_ 10), (1, u "java/lang/System"), (0, u "allowSecurityManager"), (0, u "I"), (16, u "cons"), (0, u "Ljava/io/Console;"), (77, .class_ 110), (1, u "java/lang/System$CallersHolder"), (43, u "initialErrStream"), (0, u "Ljava/io/PrintStream;"), (19, u "security"), (0, u "Ljava/lang/SecurityManager;"), (31, .class_ 209), (0, u "java/lang/System$1"), (7, u "props"), (0, u "Ljava/util/Properties;"), (2, u "lineSeparator"), (0, u "Ljava/lang/String;"), (96, .class_ 321), (1, u "java/lang/System$LoggerFinder"), (5, .class_ 328), (0, u "java/lang/System$Logger"), (67, u "err"), (2, u "out"), (91, u "notSupportedJnuEncoding"), (15, u "in"), (17, u "initialIn"), (0, u "Ljava/io/InputStream;"), (35, u "bootLayer"), (0, u "Ljava/lang/ModuleLayer;"), (99, .class_ 664), (0, u "java/lang/System$2"), (9, u "NEVER"), (2, u "MAYBE"), (49, u "arraycopy"), (0, u "(Ljava/lang/Object;ILjava/lang/Object;II)V"), (72, .class_ 802), (0, u "java/lang/System$Logger$Level")] 31

def k14m0 : Method := { name := "<init>", desc := "()V", sig := { parameters := [], returnType := none }, accessFlags := 2, code := none }
def k14m1 : Method := { name := "arraycopy", desc := "(Ljava/lang/Object;ILjava/lang/Object;II)V", sig := { parameters := [(.object "java/lang/Object"), .int, (.object "java/lang/Object"), .int, .int], returnType := none }, accessFlags := 265, code := none }
/-- java/lang/System -/
def k14 : Class := { plain "java/lang/System" (some 0) with
  accessFlags := 49
  interfaces := #[]
  cf := some (fileOf pool14 8 #[.nestMembers #[319, 327, 801, 108, 663, 208]] #[{ accessFlags := 2, nameIndex := 5, descriptorIndex := 6, attributes := #[] }, { accessFlags := 265, nameIndex := 727, descriptorIndex := 728, attributes := #[] }] 49 2 #[] #[{ accessFlags := 25, nameIndex := 507, descriptorIndex := 526, attributes := #[] }, { accessFlags := 25, nameIndex := 399, descriptorIndex := 155, attributes := #[] }, { accessFlags := 25, nameIndex := 396, descriptorIndex := 155, attributes := #[] }, { accessFlags := 10, nameIndex := 525, descriptorIndex := 526, attributes := #[] }, { accessFlags := 26, nameIndex := 674, descriptorIndex := 12, attributes := #[] }, { accessFlags := 26, nameIndex := 677, descriptorIndex := 12, attributes := #[] }, { accessFlags := 10, nameIndex := 11, descriptorIndex := 12, attributes := #[] }, { accessFlags := 74, nameIndex := 175, descriptorIndex := 176, attributes := #[] }, { accessFlags := 10, nameIndex := 491, descriptorIndex := 222, attributes := #[] }, { accessFlags := 74, nameIndex := 29, descriptorIndex := 30, attributes := #[] }, { accessFlags := 74, nameIndex := 154, descriptorIndex := 155, attributes := #[] }, { accessFlags := 10, nameIndex := 217, descriptorIndex := 218, attributes := #[] }, { accessFlags := 10, nameIndex := 221, descriptorIndex := 222, attributes := #[] }, { accessFlags := 8, nameIndex := 562, descriptorIndex := 563, attributes := #[] }])
  fields := #[{ name := "in", type := (.object "java/io/InputStream"), accessFlags := 25, slot := 0, constantValue := 0 }, { name := "out", type := (.object "java/io/PrintStream"), accessFlags := 25, slot := 1, constantValue := 0 }, { name := "err", type := (.object "java/io/PrintStream"), accessFlags := 25, slot := 2, constantValue := 0 }, { name := "initialIn", type := (.object "java/io/InputStream"), accessFlags := 10, slot := 3, constantValue := 0 }, { name := "NEVER", type := .int, accessFlags := 26, slot := 4, constantValue := 0 }, { name := "MAYBE", type := .int, accessFlags := 26, slot := 5, constantValue := 0 }, { name := "allowSecurityManager", type := .int, accessFlags := 10, slot := 6, constantValue := 0 }, { name := "security", type := (.object "java/lang/SecurityManager"), accessFlags := 74, slot := 7, constantValue := 0 }, { name := "notSupportedJnuEncoding", type := (.object "java/lang/String"), accessFlags := 10, slot := 8, constantValue := 0 }, { name := "cons", type := (.object "java/io/Console"), accessFlags := 74, slot := 9, constantValue := 0 }, { name := "initialErrStream", type := (.object "java/io/PrintStream"), accessFlags := 74, slot := 10, constantValue := 0 }, { name := "props", type := (.object "java/util/Properties"), accessFlags := 10, slot := 11, constantValue := 0 }, { name := "lineSeparator", type := (.object "java/lang/String"), accessFlags := 10, slot := 12, constantValue := 0 }, { name := "bootLayer", type := (.object "java/lang/ModuleLayer"), accessFlags := 8, slot := 13, constantValue := 0 }]
  methods := #[k14m0, k14m1]
  instanceTypes := #[]
  staticTypes := #[(.object "java/io/InputStream"), (.object "java/io/PrintStream"), (.object "java/io/PrintStream"), (.object "java/io/InputStream"), .int, .int, .int, (.object "java/lang/SecurityManager"), (.object "java/lang/String"), (.object "java/io/Console"), (.object "java/io/PrintStream"), (.object "java/util/Properties"), (.object "java/lang/String"), (.object "java/lang/ModuleLayer")]
  resolved := Array.replicate 834 none
  statics := none }

def pool15 : Array CpInfo := pool [(2, .class_ 4), (1, u "java/lang/Object"), (0, u "<init>"), (0, u "()V"), (7, .class_ 16), (1, u "java/util/Arrays"), (57, .class_ 76), (1, u "java/util/Arrays$NaturalOrder"), (36, .class_ 115), (1, u "java/util/Arrays$LegacyMergeSort"), (1, u "Z"), (21, u "copyOfRange"), (10, .methodref 151 152), (0, .class_ 153), (0, .nameAndType 154 155), (0, u "java/lang/System"), (0, u "arraycopy"), (0, u "(Ljava/lang/Object;ILjava/lang/Object;II)V"), (148, .methodref 305 306), (0, .class_ 307), (0, .nameAndType 308 309), (0, u "java/lang/Math"), (0, u "min"), (0, u "(II)I"), (29, .methodref 14 340), (0, .nameAndType 341 342), (0, u "copyOfRangeByte"), (0, u "([BII)[B"), (0, .methodref 14 344), (0, .nameAndType 345 346), (0, u "checkLength"), (0, u "(II)V"), (28, .class_ 376), (0, u "java/util/Arrays$ArrayList"), (68, u "$assertionsDisabled"), (269, u "MIN_ARRAY_SORT_GRAN"), (0, u "I"), (2, u "INSERTIONSORT_THRESHOLD"), (255, .class_ 976), (0, u "java/util/Arrays$ArrayItr")] 52

def k15m0 : Method := { name := "<init>", desc := "()V", sig := { parameters := [], returnType := none }, accessFlags := 2, code := none }
def k15c1 : Code := { maxStack := 4, maxLocals := 2, code := jdk_65_method_131_code, exceptionTable := #[], attributes := #[] }
def k15m1 : Method := { name := "checkLength", desc := "(II)V", sig := { parameters := [.int, .int], returnType := none }, accessFlags := 10, code := some k15c1 }
def k15c2 : Code := { maxStack := 3, maxLocals := 3, code := jdk_65_method_132_code, exceptionTable := #[], attributes := #[] }
def k15m2 : Method := { name := "copyOfRange", desc := "([BII)[B", sig := { parameters := [(.array .byte), .int, .int], returnType := some (.array .byte) }, accessFlags := 9, code := some k15c2 }
def k15c3 : Code := { maxStack := 6, maxLocals := 5, code := jdk_65_method_133_code, exceptionTable := #[], attributes := #[] }
def k15m3 : Method := { name := "copyOfRangeByte", desc := "([BII)[B", sig := { parameters := [(.array .byte), .int, .int], returnType := some (.array .byte) }, accessFlags := 10, code := some k15c3 }
/-- java/util/Arrays -/
def k15 : Class := { plain "java/util/Arrays" (some 0) with
  accessFlags := 49
  interfaces := #[]
  cf := some (fileOf pool15 14 #[.nestMembers #[975, 375, 113, 74]] #[{ accessFlags := 2, nameIndex := 5, descriptorIndex := 6, attributes := #[] }, { accessFlags := 10, nameIndex := 345, descriptorIndex := 346, attributes := #[] }, { accessFlags := 9, nameIndex := 139, descriptorIndex := 342, attributes := #[] }, { accessFlags := 10, nameIndex := 341, descriptorIndex := 342, attributes := #[] }] 49 2 #[] #[{ accessFlags := 26, nameIndex := 715, descriptorIndex := 716, attributes := #[] }, { accessFlags := 26, nameIndex := 719, descriptorIndex := 716, attributes := #[] }, { accessFlags := 4120, nameIndex := 445, descriptorIndex := 117, attributes := #[] }])
  fields := #[{ name := "MIN_ARRAY_SORT_GRAN", type := .int, accessFlags := 26, slot := 0, constantValue := 0 }, { name := "INSERTIONSORT_THRESHOLD", type := .int, accessFlags := 26, slot := 1, constantValue := 0 }, { name := "$assertionsDisabled", type := .boolean, accessFlags := 4120, slot := 2, constantValue := 0 }]
  methods := #[k15m0, k15m1, k15m2, k15m3]
  instanceTypes := #[]
  staticTypes := #[.int, .int, .boolean]
  resolved := Array.replicate 1029 none
  statics := none }

def pool16 : Array CpInfo := pool [(1, .class_ 2), (0, u "java/lang/Math"), (1, .class_ 6), (1, u "java/lang/Object"), (0, u "<init>"), (0, u "()V"), (89, .class_ 100), (1, u "java/lang/Math$RandomNumberGeneratorHolder"), (71, u "negativeZeroFloatBits"), (0, u "J"), (2, u "negativeZeroDoubleBits"), (24, u "min"), (43, u "$assertionsDisabled"), (0, u "Z"), (88, u "(II)I"), (2, u "twoToTheDoubleScaleDown"), (0, u "D"), (4, u "twoToTheDoubleScaleUp"), (9, u "E"), (3, u "PI"), (2, u "TAU"), (2, u "DEGREES_TO_RADIANS"), (0, u "RADIANS_TO_DEGREES")] 94

def k16m0 : Method := { name := "<init>", desc := "()V", sig := { parameters := [], returnType := none }, accessFlags := 2, code := none }
def k16c1 : Code := { maxStack := 2, maxLocals := 2, code := jdk_29_method_69_code, exceptionTable := #[], attributes := #[] }
def k16m1 : Method := { name := "min", desc := "(II)I", sig := { parameters := [.int, .int], returnType := some .int }, accessFlags := 9, code := some k16c1 }
/-- java/lang/Math -/
def k16 : Class := { plain "java/lang/Math" (some 0) with
  accessFlags := 49
  interfaces := #[]
  cf := some (fileOf pool16 1 #[.nestMembers #[98]] #[{ accessFlags := 2, nameIndex := 7, descriptorIndex := 8, attributes := #[] }, { accessFlags := 9, nameIndex := 201, descriptorIndex := 335, attributes := #[] }] 49 4 #[] #[{ accessFlags := 25, nameIndex := 354, descriptorIndex := 339, attributes := #[] }, { accessFlags := 25, nameIndex := 358, descriptorIndex := 339, attributes := #[] }, { accessFlags := 25, nameIndex := 361, descriptorIndex := 339, attributes := #[] }, { accessFlags := 26, nameIndex := 364, descriptorIndex := 339, attributes := #[] }, { accessFlags := 26, nameIndex := 365, descriptorIndex := 339, attributes := #[] }, { accessFlags := 26, nameIndex := 172, descriptorIndex := 173, attributes := #[] }, { accessFlags := 26, nameIndex := 176, descriptorIndex := 173, attributes := #[] }, { accessFlags := 8, nameIndex := 344, descriptorIndex := 339, attributes := #[] }, { accessFlags := 8, nameIndex := 338, descriptorIndex := 339, attributes := #[] }, { accessFlags := 4120, nameIndex := 245, descriptorIndex := 246, attributes := #[] }])
  fields := #[{ name := "E", type := .double, accessFlags := 25, slot := 0, constantValue := 0 }, { name := "PI", type := .double, accessFlags := 25, slot := 1, constantValue := 0 }, { name := "TAU", type := .double, accessFlags := 25, slot := 2, constantValue := 0 }, { name := "DEGREES_TO_RADIANS", type := .double, accessFlags := 26, slot := 3, constantValue := 0 }, { name := "RADIANS_TO_DEGREES", type := .double, accessFlags := 26, slot := 4, constantValue := 0 }, { name := "negativeZeroFloatBits", type := .long, accessFlags := 26, slot := 5, constantValue := 0 }, { name := "negativeZeroDoubleBits", type := .long, accessFlags := 26, slot := 6, constantValue := 0 }, { name := "twoToTheDoubleScaleUp", type := .double, accessFlags := 8, slot := 7, constantValue := 0 }, { name := "twoToTheDoubleScaleDown", type := .double, accessFlags := 8, slot := 8, constantValue := 0 }, { name := "$assertionsDisabled", type := .boolean, accessFlags := 4120, slot := 9, constantValue := 0 }]
  methods := #[k16m0, k16m1]
  instanceTypes := #[]
  staticTypes := #[.double, .double, .double, .double, .double, .long, .long, .double, .double, .boolean]
  resolved := Array.replicate 460 none
  statics := none }

def pool17 : Array CpInfo := pool [(1, .class_ 2), (0, u "java/lang/String"), (1, .class_ 6), (1, u "java/lang/Object"), (0, u "<init>"), (0, u "()V"), (0, .methodref 1 10), (0, .nameAndType 11 12), (0, u "checkIndex"), (0, u "(II)V"), (1, .class_ 16), (1, u "java/lang/StringLatin1"), (0, u "inflate"), (2, .class_ 22), (1, u "java/lang/StringUTF16"), (3, .nameAndType 17 27), (0, u "([BI[BII)V"), (25, u "([BI)C"), (36, u "canEncode"), (14, u "(C)Z"), (15, u "$assertionsDisabled"), (0, u "Z"), (98, .class_ 223), (1, u "java/lang/StringLatin1$LinesSpliterator"), (16, .methodref 20 26), (11, u "charAt"), (127, u "toBytes"), (1, u "(C)[B"), (7, .class_ 391), (0, u "java/lang/StringLatin1$CharsSpliterator")] 3

def k17m0 : Method := { name := "<init>", desc := "()V", sig := { parameters := [], returnType := none }, accessFlags := 0, code := none }
def k17c1 : Code := { maxStack := 2, maxLocals := 2, code := jdk_43_method_2_code, exceptionTable := #[], attributes := #[] }
def k17m1 : Method := { name := "charAt", desc := "([BI)C", sig := { parameters := [(.array .byte), .int], returnType := some .char }, accessFlags := 9, code := some k17c1 }
def k17c2 : Code := { maxStack := 2, maxLocals := 1, code := jdk_43_method_3_code, exceptionTable := #[], attributes := #[] }
def k17m2 : Method := { name := "canEncode", desc := "(C)Z", sig := { parameters := [.char], returnType := some .boolean }, accessFlags := 9, code := some k17c2 }
def k17c3 : Code := { maxStack := 4, maxLocals := 1, code := jdk_43_method_46_code, exceptionTable := #[], attributes := #[] }
def k17m3 : Method := { name := "toBytes", desc := "(C)[B", sig := { parameters := [.char], returnType := some (.array .byte) }, accessFlags := 9, code := some k17c3 }
def k17c4 : Code := { maxStack := 5, maxLocals := 5, code := jdk_43_method_50_code, exceptionTable := #[], attributes := #[] }
def k17m4 : Method := { name := "inflate", desc := "([BI[BII)V", sig := { parameters := [(.array .byte), .int, (.array .byte), .int, .int], returnType := none }, accessFlags := 9, code := some k17c4 }
/-- java/lang/StringLatin1 -/
def k17 : Class := { plain "java/lang/StringLatin1" (some 0) with
  accessFlags := 48
  interfaces := #[]
  cf := some (fileOf pool17 14 #[.nestMembers #[390, 221]] #[{ accessFlags := 0, nameIndex := 7, descriptorIndex := 8, attributes := #[] }, { accessFlags := 9, nameIndex := 252, descriptorIndex := 53, attributes := #[] }, { accessFlags := 9, nameIndex := 90, descriptorIndex := 105, attributes := #[] }, { accessFlags := 9, nameIndex := 380, descriptorIndex := 382, attributes := #[] }, { accessFlags := 9, nameIndex := 17, descriptorIndex := 27, attributes := #[] }] 48 4 #[] #[{ accessFlags := 4120, nameIndex := 121, descriptorIndex := 122, attributes := #[] }])
  fields := #[{ name := "$assertionsDisabled", type := .boolean, accessFlags := 4120, slot := 0, constantValue := 0 }]
  methods := #[k17m0, k17m1, k17m2, k17m3, k17m4]
  instanceTypes := #[]
  staticTypes := #[.boolean]
  resolved := Array.replicate 395 none
  statics := none }

def pool18 : Array CpInfo := pool [(2, .class_ 4), (1, u "java/lang/Object"), (0, u "<init>"), (0, u "()V"), (17, .class_ 26), (1, u "jdk/internal/util/Preconditions"), (6, u "checkIndex"), (15, u "checkFromIndexSize"), (5, .class_ 56), (0, u "jdk/internal/util/Preconditions$4"), (57, .class_ 115), (0, u "jdk/internal/util/Preconditions$1"), (7, u "SIOOBE_FORMATTER"), (0, u "Ljava/util/function/BiFunction;"), (0, .class_ 126), (0, u "jdk/internal/util/Preconditions$2"), (3, u "AIOOBE_FORMATTER"), (0, .class_ 132), (0, u "jdk/internal/util/Preconditions$3"), (3, u "IOOBE_FORMATTER"), (41, u "(IILjava/util/function/BiFunction;)I"), (4, u "(IIILjava/util/function/BiFunction;)I")] 10

def k18m0 : Method := { name := "<init>", desc := "()V", sig := { parameters := [], returnType := none }, accessFlags := 1, code := none }
def k18c1 : Code := { maxStack := 3, maxLocals := 3, code := jdk_41_method_11_code, exceptionTable := #[], attributes := #[] }
def k18m1 : Method := { name := "checkIndex", desc := "(IILjava/util/function/BiFunction;)I", sig := { parameters := [.int, .int, (.object "java/util/function/BiFunction")], returnType := some .int }, accessFlags := 9, code := some k18c1 }
def k18c2 : Code := { maxStack := 4, maxLocals := 4, code := jdk_41_method_13_code, exceptionTable := #[], attributes := #[] }
def k18m2 : Method := { name := "checkFromIndexSize", desc := "(IIILjava/util/function/BiFunction;)I", sig := { parameters := [.int, .int, .int, (.object "java/util/function/BiFunction")], returnType := some .int }, accessFlags := 9, code := some k18c2 }
/-- jdk/internal/util/Preconditions -/
def k18 : Class := { plain "jdk/internal/util/Preconditions" (some 0) with
  accessFlags := 33
  interfaces := #[]
  cf := some (fileOf pool18 24 #[.nestMembers #[55, 131, 125, 114]] #[{ accessFlags := 1, nameIndex := 5, descriptorIndex := 6, attributes := #[] }, { accessFlags := 9, nameIndex := 33, descriptorIndex := 178, attributes := #[] }, { accessFlags := 9, nameIndex := 49, descriptorIndex := 183, attributes := #[] }] 33 2 #[] #[{ accessFlags := 25, nameIndex := 123, descriptorIndex := 124, attributes := #[] }, { accessFlags := 25, nameIndex := 130, descriptorIndex := 124, attributes := #[] }, { accessFlags := 25, nameIndex := 136, descriptorIndex := 124, attributes := #[] }])
  fields := #[{ name := "SIOOBE_FORMATTER", type := (.object "java/util/function/BiFunction"), accessFlags := 25, slot := 0, constantValue := 0 }, { name := "AIOOBE_FORMATTER", type := (.object "java/util/function/BiFunction"), accessFlags := 25, slot := 1, constantValue := 0 }, { name := "IOOBE_FORMATTER", type := (.object "java/util/function/BiFunction"), accessFlags := 25, slot := 2, constantValue := 0 }]
  methods := #[k18m0, k18m1, k18m2]
  instanceTypes := #[]
  staticTypes := #[(.object "java/util/function/BiFunction"), (.object "java/util/function/BiFunction"), (.object "java/util/function/BiFunction")]
  resolved := Array.replicate 194 none
  statics := some 2 }

def pool19 : Array CpInfo := pool [(9, u "<init>"), (6, .class_ 18), (1, u "java/lang/Object"), (0, u "()V"), (1, .class_ 23), (1, u "jdk/internal/util/ArraysSupport"), (0, u "LOG2_ARRAY_LONG_INDEX_SCALE"), (0, u "I"), (2, u "U"), (0, u "Ljdk/internal/misc/Unsafe;"), (8, u "BIG_ENDIAN"), (0, u "Z"), (8, u "LOG2_BYTE_BIT_SIZE"), (4, u "LOG2_ARRAY_INT_INDEX_SCALE"), (54, u "JLA"), (0, u "Ljdk/internal/access/JavaLangAccess;"), (11, u "LOG2_ARRAY_BOOLEAN_INDEX_SCALE"), (9, u "LOG2_ARRAY_BYTE_INDEX_SCALE"), (5, u "LOG2_ARRAY_CHAR_INDEX_SCALE"), (5, u "LOG2_ARRAY_SHORT_INDEX_SCALE"), (18, u "LOG2_ARRAY_FLOAT_INDEX_SCALE"), (24, u "LOG2_ARRAY_DOUBLE_INDEX_SCALE"), (89, u "T_BOOLEAN"), (2, u "T_CHAR"), (1, u "T_FLOAT"), (1, u "T_DOUBLE"), (1, u "T_BYTE"), (1, u "T_SHORT"), (1, u "T_INT"), (1, u "T_LONG"), (1, u "SOFT_MAX_ARRAY_LENGTH")] 83

def k19m0 : Method := { name := "<init>", desc := "()V", sig := { parameters := [], returnType := none }, accessFlags := 2, code := none }
/-- jdk/internal/util/ArraysSupport -/
def k19 : Class := { plain "jdk/internal/util/ArraysSupport" (some 0) with
  accessFlags := 33
  interfaces := #[]
  cf := some (fileOf pool19 21 #[] #[{ accessFlags := 2, nameIndex := 9, descriptorIndex := 19, attributes := #[] }] 33 16 #[] #[{ accessFlags := 24, nameIndex := 28, descriptorIndex := 29, attributes := #[] }, { accessFlags := 26, nameIndex := 38, descriptorIndex := 39, attributes := #[] }, { accessFlags := 25, nameIndex := 121, descriptorIndex := 25, attributes := #[] }, { accessFlags := 25, nameIndex := 131, descriptorIndex := 25, attributes := #[] }, { accessFlags := 25, nameIndex := 137, descriptorIndex := 25, attributes := #[] }, { accessFlags := 25, nameIndex := 143, descriptorIndex := 25, attributes := #[] }, { accessFlags := 25, nameIndex := 53, descriptorIndex := 25, attributes := #[] }, { accessFlags := 25, nameIndex := 24, descriptorIndex := 25, attributes := #[] }, { accessFlags := 25, nameIndex := 162, descriptorIndex := 25, attributes := #[] }, { accessFlags := 25, nameIndex := 187, descriptorIndex := 25, attributes := #[] }, { accessFlags := 26, nameIndex := 48, descriptorIndex := 25, attributes := #[] }, { accessFlags := 25, nameIndex := 277, descriptorIndex := 25, attributes := #[] }, { accessFlags := 25, nameIndex := 280, descriptorIndex := 25, attributes := #[] }, { accessFlags := 25, nameIndex := 282, descriptorIndex := 25, attributes := #[] }, { accessFlags := 25, nameIndex := 284, descriptorIndex := 25, attributes := #[] }, { accessFlags := 25, nameIndex := 286, descriptorIndex := 25, attributes := #[] }, { accessFlags := 25, nameIndex := 288, descriptorIndex := 25, attributes := #[] }, { accessFlags := 25, nameIndex := 290, descriptorIndex := 25, attributes := #[] }, { accessFlags := 25, nameIndex := 292, descriptorIndex := 25, attributes := #[] }, { accessFlags := 26, nameIndex := 108, descriptorIndex := 109, attributes := #[] }, { accessFlags := 25, nameIndex := 294, descriptorIndex := 25, attributes := #[] }])
  fields := #[{ name := "U", type := (.object "jdk/internal/misc/Unsafe"), accessFlags := 24, slot := 0, constantValue := 0 }, { name := "BIG_ENDIAN", type := .boolean, accessFlags := 26, slot := 1, constantValue := 0 }, { name := "LOG2_ARRAY_BOOLEAN_INDEX_SCALE", type := .int, accessFlags := 25, slot := 2, constantValue := 0 }, { name := "LOG2_ARRAY_BYTE_INDEX_SCALE", type := .int, accessFlags := 25, slot := 3, constantValue := 0 }, { name := "LOG2_ARRAY_CHAR_INDEX_SCALE", type := .int, accessFlags := 25, slot := 4, constantValue := 0 }, { name := "LOG2_ARRAY_SHORT_INDEX_SCALE", type := .int, accessFlags := 25, slot := 5, constantValue := 0 }, { name := "LOG2_ARRAY_INT_INDEX_SCALE", type := .int, accessFlags := 25, slot := 6, constantValue := 0 }, { name := "LOG2_ARRAY_LONG_INDEX_SCALE", type := .int, accessFlags := 25, slot := 7, constantValue := 0 }, { name := "LOG2_ARRAY_FLOAT_INDEX_SCALE", type := .int, accessFlags := 25, slot := 8, constantValue := 0 }, { name := "LOG2_ARRAY_DOUBLE_INDEX_SCALE", type := .int, accessFlags := 25, slot := 9, constantValue := 0 }, { name := "LOG2_BYTE_BIT_SIZE", type := .int, accessFlags := 26, slot := 10, constantValue := 0 }, { name := "T_BOOLEAN", type := .int, accessFlags := 25, slot := 11, constantValue := 0 }, { name := "T_CHAR", type := .int, accessFlags := 25, slot := 12, constantValue := 0 }, { name := "T_FLOAT", type := .int, accessFlags := 25, slot := 13, constantValue := 0 }, { name := "T_DOUBLE", type := .int, accessFlags := 25, slot := 14, constantValue := 0 }, { name := "T_BYTE", type := .int, accessFlags := 25, slot := 15, constantValue := 0 }, { name := "T_SHORT", type := .int, accessFlags := 25, slot := 16, constantValue := 0 }, { name := "T_INT", type := .int, accessFlags := 25, slot := 17, constantValue := 0 }, { name := "T_LONG", type := .int, accessFlags := 25, slot := 18, constantValue := 0 }, { name := "JLA", type := (.object "jdk/internal/access/JavaLangAccess"), accessFlags := 26, slot := 19, constantValue := 0 }, { name := "SOFT_MAX_ARRAY_LENGTH", type := .int, accessFlags := 25, slot := 20, constantValue := 0 }]
  methods := #[k19m0]
  instanceTypes := #[]
  staticTypes := #[(.object "jdk/internal/misc/Unsafe"), .boolean, .int, .int, .int, .int, .int, .int, .int, .int, .int, .int, .int, .int, .int, .int, .int, .int, .int, (.object "jdk/internal/access/JavaLangAccess"), .int]
  resolved := Array.replicate 378 none
  statics := none }

def pool20 : Array CpInfo := pool [(1, u "java/lang/Cloneable"), (0, .class_ 1), (0, u "java/lang/Object"), (0, .class_ 3)] 3

/-- java/lang/Cloneable -/
def k20 : Class := { plain "java/lang/Cloneable" (some 0) with
  accessFlags := 1537
  interfaces := #[]
  cf := some (fileOf pool20 2 #[] #[] 1537 4 #[] #[])
  fields := #[]
  methods := #[]
  instanceTypes := #[]
  staticTypes := #[]
  resolved := Array.replicate 8 none
  statics := none }

/-- the primitive byte -/
def k21 : Class := { plain "byte" none with kind := .primitive 'B', accessFlags := 0x411 }
/-- [B -/
def k22 : Class := { plain "[B" (some 0) with kind := .array 21 .byte, interfaces := #[20, 2], accessFlags := 1041 }

/-- the primitive char -/
def k23 : Class := { plain "char" none with kind := .primitive 'C', accessFlags := 0x411 }
/-- [C -/
def k24 : Class := { plain "[C" (some 0) with kind := .array 23 .char, interfaces := #[20, 2], accessFlags := 1041 }

/-- the primitive int -/
def k25 : Class := { plain "int" none with kind := .primitive 'I', accessFlags := 0x411 }
/-- [I -/
def k26 : Class := { plain "[I" (some 0) with kind := .array 25 .int, interfaces := #[20, 2], accessFlags := 1041 }

def heap : Heap := #[{ cls := 7, slots := #[.long 0, .int 1, .null, .int 0, .null, .int 0, .int 0], vm := .statics 7 },
  { cls := 8, slots := #[.int 0, .int 8, .int 0, .int 1], vm := .statics 8 },
  { cls := 18, slots := #[.null, .null, .null], vm := .statics 18 }]
def classes : Array Class := #[k0, k1, k2, k3, k4, k5, k6, k7, k8, k9, k10, k11, k12, k13, k14, k15, k16, k17, k18, k19, k20, k21, k22, k23, k24, k25, k26]
def interned : List (Array UInt16 × Addr) := []
def slotsUsed : Nat := 14
def theMethod : MethodId := ⟨1, 3⟩
def args0 : Array Value := #[.int 5, .int 5, .int 5]
def aboutOver (below : List Frame) : State where
  vm := { classes := classes, interned := interned.toArray }
  heap := heap
  slotsUsed := slotsUsed
  threads := #[{ frames := .invoking theMethod args0 :: below }]
def below0 : List Frame := [.native { method := ⟨0, 0⟩, args := #[] }]
def about1 : State := aboutOver below0
def p0 : Program := .bare "" "" ""
def e0 : Env := launch0.env 0 0 0
theorem w_frames : about1.frames = Frame.invoking theMethod args0 :: below0 := rfl
set_option maxRecDepth 65536 in
theorem w_args : argsFit about1.vm theMethod args0 = true := by decide +kernel
set_option maxRecDepth 65536 in
theorem w_heap : heapFits about1 = true := by decide +kernel
set_option maxRecDepth 65536 in
theorem w_runnable : about1.curStatus? = some .runnable := by decide +kernel
set_option maxRecDepth 65536 in
theorem w_alone : about1.alone = true := by decide +kernel
set_option maxRecDepth 65536 in
theorem w_named : about1.methodNamed? x = some theMethod := by decide +kernel
set_option maxRecDepth 65536 in
theorem w_hears : about1.hears theMethod below0 = true := by decide +kernel
set_option maxRecDepth 65536 in
theorem w_ripe : about1.ripe theMethod args0 below0 = true := by decide +kernel
theorem w_running : about1.status = .running := rfl
set_option maxRecDepth 65536 in
theorem w_room : about1.hasRoom e0.platform room_1 = true :=
  launch0.hasRoom_least _ room_1 (by decide +kernel) (by decide +kernel) (by decide +kernel) (by decide +kernel) (by decide +kernel) (by decide +kernel)
theorem allAtoms_all (ts : List Jvm.Cond) (a : Array Jvm.Value) (st : Jvm.State) : (allAtoms ts).before a st = ts.all (fun c => c.before a st) := by
  induction ts with
  | nil => rfl
  | cons c t ih =>
    show (Jvm.Cond.and c (allAtoms t)).before a st = _
    rw [Jvm.Cond.before_and, ih, List.all_cons]
def words1 : List Jvm.Cond := Jvm.Cond.code x code maxLocals ret :: tables_1
/-- a 'code' word, met by the world's own term for the bytes: nothing is compared byte by byte -/
theorem code_word {y : MethodName} {bytes : ByteArray} {mx : Nat} {rt : Option FieldType} {a : Array Value} {s : State} {m : MethodId} {meth : Method} {c : Code} (h1 : s.methodNamed? y = some m) (h2 : s.vm.method? m = some meth) (h3 : meth.code = some c) (h4 : c.code = bytes)
    (h5 : (c.maxLocals == mx && c.exceptionTable.isEmpty && decide (c.maxStack ≤ mostOperands) && decide (meth.sig.returnType = rt) && !meth.locks && decide (parseMethodDescriptor y.desc = some meth.sig)) = true) : (Jvm.Cond.code y bytes mx rt).before a s = true := by
  simp only [Bool.and_eq_true, beq_iff_eq, Bool.not_eq_true', decide_eq_true_eq] at h5
  obtain ⟨⟨⟨⟨⟨g1, g2⟩, g3⟩, g4⟩, g5⟩, g6⟩ := h5
  simp [Cond.before, Cond.holds, Cond.value, h1, h2, h3, h4, g1, g2, g3, g4, g5, g6]
def isCode : Jvm.Cond → Bool
  | .code _ _ _ _ => true
  | _ => false
theorem all_split {L : List Jvm.Cond} {P : Jvm.Cond → Bool} (h1 : L.all (fun c => isCode c || P c) = true) (h2 : ∀ c ∈ L.filter isCode, P c = true) : L.all P = true := by
  refine List.all_eq_true.mpr fun c hc => ?_
  have h := List.all_eq_true.mp h1 c hc
  rcases Bool.eq_false_or_eq_true (isCode c) with hi | hi
  · exact h2 c (List.mem_filter.mpr ⟨hc, hi⟩)
  · simpa [hi] using h
set_option maxRecDepth 65536 in
theorem w_c0 : (Jvm.Cond.code x code maxLocals ret).before args0 about1 = true := code_word (m := ⟨1, 3⟩) (meth := k1m3) (c := k1c3) (by decide +kernel) rfl rfl rfl (by decide +kernel)
set_option maxRecDepth 65536 in
theorem w_c1 : (Jvm.Cond.code ({ cls := "com/example/tuikuan/tuikuan/OptionSynopsisPinLaw", name := "make", desc := "(ICC)Ljava/lang/String;" } : Jvm.MethodName) method_2_code (3 : Nat) (Option.some (Jvm.ClassFile.FieldType.object "java/lang/String"))).before args0 about1 = true := code_word (m := ⟨1, 1⟩) (meth := k1m1) (c := k1c1) (by decide +kernel) rfl rfl rfl (by decide +kernel)
set_option maxRecDepth 65536 in
theorem w_c2 : (Jvm.Cond.code ({ cls := "java/lang/String", name := "<init>", desc := "([C)V" } : Jvm.MethodName) jdk_42_method_3_code (2 : Nat) (Option.none : Option Jvm.ClassFile.FieldType)).before args0 about1 = true := code_word (m := ⟨7, 1⟩) (meth := k7m1) (c := k7c1) (by decide +kernel) rfl rfl rfl (by decide +kernel)
set_option maxRecDepth 65536 in
theorem w_c3 : (Jvm.Cond.code ({ cls := "java/lang/String", name := "<init>", desc := "([CIILjava/lang/Void;)V" } : Jvm.MethodName) jdk_42_method_149_code (6 : Nat) (Option.none : Option Jvm.ClassFile.FieldType)).before args0 about1 = true := code_word (m := ⟨7, 7⟩) (meth := k7m7) (c := k7c7) (by decide +kernel) rfl rfl rfl (by decide +kernel)
set_option maxRecDepth 65536 in
theorem w_c4 : (Jvm.Cond.code ({ cls := "java/lang/Object", name := "<init>", desc := "()V" } : Jvm.MethodName) object_method_1_code (1 : Nat) (Option.none : Option Jvm.ClassFile.FieldType)).before args0 about1 = true := code_word (m := ⟨0, 0⟩) (meth := k0m0) (c := k0c0) (by decide +kernel) rfl rfl rfl (by decide +kernel)
set_option maxRecDepth 65536 in
theorem w_c5 : (Jvm.Cond.code ({ cls := "java/lang/StringUTF16", name := "compress", desc := "([CII)[B" } : Jvm.MethodName) jdk_52_method_16_code (6 : Nat) (Option.some (Jvm.ClassFile.FieldType.array Jvm.ClassFile.FieldType.byte))).before args0 about1 = true := code_word (m := ⟨8, 8⟩) (meth := k8m8) (c := k8c8) (by decide +kernel) rfl rfl rfl (by decide +kernel)
set_option maxRecDepth 65536 in
theorem w_c6 : (Jvm.Cond.code ({ cls := "java/lang/StringUTF16", name := "compress", desc := "([CI[BII)I" } : Jvm.MethodName) jdk_52_method_21_code (7 : Nat) (Option.some Jvm.ClassFile.FieldType.int)).before args0 about1 = true := code_word (m := ⟨8, 9⟩) (meth := k8m9) (c := k8c9) (by decide +kernel) rfl rfl rfl (by decide +kernel)
set_option maxRecDepth 65536 in
theorem w_c7 : (Jvm.Cond.code ({ cls := "java/lang/StringUTF16", name := "coderFromArrayLen", desc := "([BI)B" } : Jvm.MethodName) jdk_52_method_15_code (2 : Nat) (Option.some Jvm.ClassFile.FieldType.byte)).before args0 about1 = true := code_word (m := ⟨8, 7⟩) (meth := k8m7) (c := k8c7) (by decide +kernel) rfl rfl rfl (by decide +kernel)
set_option maxRecDepth 65536 in
theorem w_c8 : (Jvm.Cond.code ({ cls := "com/example/tuikuan/tuikuan/Usage$Option", name := "<init>", desc := "(Ljava/lang/String;Ljava/lang/String;Ljava/lang/String;)V" } : Jvm.MethodName) prog_35_method_1_code (4 : Nat) (Option.none : Option Jvm.ClassFile.FieldType)).before args0 about1 = true := code_word (m := ⟨10, 0⟩) (meth := k10m0) (c := k10c0) (by decide +kernel) rfl rfl rfl (by decide +kernel)
set_option maxRecDepth 65536 in
theorem w_c9 : (Jvm.Cond.code ({ cls := "java/lang/Record", name := "<init>", desc := "()V" } : Jvm.MethodName) jdk_30_method_1_code (1 : Nat) (Option.none : Option Jvm.ClassFile.FieldType)).before args0 about1 = true := code_word (m := ⟨9, 0⟩) (meth := k9m0) (c := k9c0) (by decide +kernel) rfl rfl rfl (by decide +kernel)
set_option maxRecDepth 65536 in
theorem w_c10 : (Jvm.Cond.code ({ cls := "com/example/tuikuan/tuikuan/Usage$Option", name := "synopsis", desc := "()Ljava/lang/String;" } : Jvm.MethodName) prog_35_method_2_code (1 : Nat) (Option.some (Jvm.ClassFile.FieldType.object "java/lang/String"))).before args0 about1 = true := code_word (m := ⟨10, 1⟩) (meth := k10m1) (c := k10c1) (by decide +kernel) rfl rfl rfl (by decide +kernel)
set_option maxRecDepth 65536 in
theorem w_c11 : (Jvm.Cond.code ({ cls := "java/lang/StringBuilder", name := "<init>", desc := "()V" } : Jvm.MethodName) jdk_67_method_1_code (1 : Nat) (Option.none : Option Jvm.ClassFile.FieldType)).before args0 about1 = true := code_word (m := ⟨13, 0⟩) (meth := k13m0) (c := k13c0) (by decide +kernel) rfl rfl rfl (by decide +kernel)
set_option maxRecDepth 65536 in
theorem w_c12 : (Jvm.Cond.code ({ cls := "java/lang/AbstractStringBuilder", name := "<init>", desc := "(I)V" } : Jvm.MethodName) jdk_68_method_2_code (2 : Nat) (Option.none : Option Jvm.ClassFile.FieldType)).before args0 about1 = true := code_word (m := ⟨12, 1⟩) (meth := k12m1) (c := k12c1) (by decide +kernel) rfl rfl rfl (by decide +kernel)
set_option maxRecDepth 65536 in
theorem w_c13 : (Jvm.Cond.code ({ cls := "java/lang/StringBuilder", name := "append", desc := "(Ljava/lang/String;)Ljava/lang/StringBuilder;" } : Jvm.MethodName) jdk_67_method_7_code (2 : Nat) (Option.some (Jvm.ClassFile.FieldType.object "java/lang/StringBuilder"))).before args0 about1 = true := code_word (m := ⟨13, 1⟩) (meth := k13m1) (c := k13c1) (by decide +kernel) rfl rfl rfl (by decide +kernel)
set_option maxRecDepth 65536 in
theorem w_c14 : (Jvm.Cond.code ({ cls := "java/lang/AbstractStringBuilder", name := "append", desc := "(Ljava/lang/String;)Ljava/lang/AbstractStringBuilder;" } : Jvm.MethodName) jdk_68_method_22_code (3 : Nat) (Option.some (Jvm.ClassFile.FieldType.object "java/lang/AbstractStringBuilder"))).before args0 about1 = true := code_word (m := ⟨12, 5⟩) (meth := k12m5) (c := k12c5) (by decide +kernel) rfl rfl rfl (by decide +kernel)
set_option maxRecDepth 65536 in
theorem w_c15 : (Jvm.Cond.code ({ cls := "java/lang/String", name := "length", desc := "()I" } : Jvm.MethodName) jdk_42_method_54_code (1 : Nat) (Option.some Jvm.ClassFile.FieldType.int)).before args0 about1 = true := code_word (m := ⟨7, 3⟩) (meth := k7m3) (c := k7c3) (by decide +kernel) rfl rfl rfl (by decide +kernel)
set_option maxRecDepth 65536 in
theorem w_c16 : (Jvm.Cond.code ({ cls := "java/lang/String", name := "coder", desc := "()B" } : Jvm.MethodName) jdk_42_method_152_code (1 : Nat) (Option.some Jvm.ClassFile.FieldType.byte)).before args0 about1 = true := code_word (m := ⟨7, 10⟩) (meth := k7m10) (c := k7c10) (by decide +kernel) rfl rfl rfl (by decide +kernel)
set_option maxRecDepth 65536 in
theorem w_c17 : (Jvm.Cond.code ({ cls := "java/lang/AbstractStringBuilder", name := "ensureCapacityInternal", desc := "(I)V" } : Jvm.MethodName) jdk_68_method_9_code (3 : Nat) (Option.none : Option Jvm.ClassFile.FieldType)).before args0 about1 = true := code_word (m := ⟨12, 3⟩) (meth := k12m3) (c := k12c3) (by decide +kernel) rfl rfl rfl (by decide +kernel)
set_option maxRecDepth 65536 in
theorem w_c18 : (Jvm.Cond.code ({ cls := "java/lang/AbstractStringBuilder", name := "putStringAt", desc := "(ILjava/lang/String;)V" } : Jvm.MethodName) jdk_68_method_73_code (3 : Nat) (Option.none : Option Jvm.ClassFile.FieldType)).before args0 about1 = true := code_word (m := ⟨12, 9⟩) (meth := k12m9) (c := k12c9) (by decide +kernel) rfl rfl rfl (by decide +kernel)
set_option maxRecDepth 65536 in
theorem w_c19 : (Jvm.Cond.code ({ cls := "java/lang/AbstractStringBuilder", name := "inflateIfNeededFor", desc := "(Ljava/lang/String;)V" } : Jvm.MethodName) jdk_68_method_71_code (2 : Nat) (Option.none : Option Jvm.ClassFile.FieldType)).before args0 about1 = true := code_word (m := ⟨12, 8⟩) (meth := k12m8) (c := k12c8) (by decide +kernel) rfl rfl rfl (by decide +kernel)
set_option maxRecDepth 65536 in
theorem w_c20 : (Jvm.Cond.code ({ cls := "java/lang/String", name := "getBytes", desc := "([BIB)V" } : Jvm.MethodName) jdk_42_method_147_code (4 : Nat) (Option.none : Option Jvm.ClassFile.FieldType)).before args0 about1 = true := code_word (m := ⟨7, 6⟩) (meth := k7m6) (c := k7c6) (by decide +kernel) rfl rfl rfl (by decide +kernel)
set_option maxRecDepth 65536 in
theorem w_c21 : (Jvm.Cond.code ({ cls := "java/lang/StringBuilder", name := "toString", desc := "()Ljava/lang/String;" } : Jvm.MethodName) jdk_67_method_42_code (1 : Nat) (Option.some (Jvm.ClassFile.FieldType.object "java/lang/String"))).before args0 about1 = true := code_word (m := ⟨13, 2⟩) (meth := k13m2) (c := k13c2) (by decide +kernel) rfl rfl rfl (by decide +kernel)
set_option maxRecDepth 65536 in
theorem w_c22 : (Jvm.Cond.code ({ cls := "java/lang/String", name := "<init>", desc := "(Ljava/lang/StringBuilder;)V" } : Jvm.MethodName) jdk_42_method_53_code (2 : Nat) (Option.none : Option Jvm.ClassFile.FieldType)).before args0 about1 = true := code_word (m := ⟨7, 2⟩) (meth := k7m2) (c := k7c2) (by decide +kernel) rfl rfl rfl (by decide +kernel)
set_option maxRecDepth 65536 in
theorem w_c23 : (Jvm.Cond.code ({ cls := "java/lang/String", name := "<init>", desc := "(Ljava/lang/AbstractStringBuilder;Ljava/lang/Void;)V" } : Jvm.MethodName) jdk_42_method_150_code (5 : Nat) (Option.none : Option Jvm.ClassFile.FieldType)).before args0 about1 = true := code_word (m := ⟨7, 8⟩) (meth := k7m8) (c := k7c8) (by decide +kernel) rfl rfl rfl (by decide +kernel)
set_option maxRecDepth 65536 in
theorem w_c24 : (Jvm.Cond.code ({ cls := "java/lang/AbstractStringBuilder", name := "getValue", desc := "()[B" } : Jvm.MethodName) jdk_68_method_64_code (1 : Nat) (Option.some (Jvm.ClassFile.FieldType.array Jvm.ClassFile.FieldType.byte))).before args0 about1 = true := code_word (m := ⟨12, 6⟩) (meth := k12m6) (c := k12c6) (by decide +kernel) rfl rfl rfl (by decide +kernel)
set_option maxRecDepth 65536 in
theorem w_c25 : (Jvm.Cond.code ({ cls := "java/lang/StringBuilder", name := "length", desc := "()I" } : Jvm.MethodName) jdk_67_method_93_code (1 : Nat) (Option.some Jvm.ClassFile.FieldType.int)).before args0 about1 = true := code_word (m := ⟨13, 3⟩) (meth := k13m3) (c := k13c3) (by decide +kernel) rfl rfl rfl (by decide +kernel)
set_option maxRecDepth 65536 in
theorem w_c26 : (Jvm.Cond.code ({ cls := "java/lang/AbstractStringBuilder", name := "length", desc := "()I" } : Jvm.MethodName) jdk_68_method_6_code (1 : Nat) (Option.some Jvm.ClassFile.FieldType.int)).before args0 about1 = true := code_word (m := ⟨12, 2⟩) (meth := k12m2) (c := k12c2) (by decide +kernel) rfl rfl rfl (by decide +kernel)
set_option maxRecDepth 65536 in
theorem w_c27 : (Jvm.Cond.code ({ cls := "java/lang/AbstractStringBuilder", name := "isLatin1", desc := "()Z" } : Jvm.MethodName) jdk_68_method_68_code (1 : Nat) (Option.some Jvm.ClassFile.FieldType.boolean)).before args0 about1 = true := code_word (m := ⟨12, 7⟩) (meth := k12m7) (c := k12c7) (by decide +kernel) rfl rfl rfl (by decide +kernel)
set_option maxRecDepth 65536 in
theorem w_c28 : (Jvm.Cond.code ({ cls := "java/util/Arrays", name := "copyOfRange", desc := "([BII)[B" } : Jvm.MethodName) jdk_65_method_132_code (3 : Nat) (Option.some (Jvm.ClassFile.FieldType.array Jvm.ClassFile.FieldType.byte))).before args0 about1 = true := code_word (m := ⟨15, 2⟩) (meth := k15m2) (c := k15c2) (by decide +kernel) rfl rfl rfl (by decide +kernel)
set_option maxRecDepth 65536 in
theorem w_c29 : (Jvm.Cond.code ({ cls := "java/util/Arrays", name := "copyOfRangeByte", desc := "([BII)[B" } : Jvm.MethodName) jdk_65_method_133_code (5 : Nat) (Option.some (Jvm.ClassFile.FieldType.array Jvm.ClassFile.FieldType.byte))).before args0 about1 = true := code_word (m := ⟨15, 3⟩) (meth := k15m3) (c := k15c3) (by decide +kernel) rfl rfl rfl (by decide +kernel)
set_option maxRecDepth 65536 in
theorem w_c30 : (Jvm.Cond.code ({ cls := "java/util/Arrays", name := "checkLength", desc := "(II)V" } : Jvm.MethodName) jdk_65_method_131_code (2 : Nat) (Option.none : Option Jvm.ClassFile.FieldType)).before args0 about1 = true := code_word (m := ⟨15, 1⟩) (meth := k15m1) (c := k15c1) (by decide +kernel) rfl rfl rfl (by decide +kernel)
set_option maxRecDepth 65536 in
theorem w_c31 : (Jvm.Cond.code ({ cls := "java/lang/Math", name := "min", desc := "(II)I" } : Jvm.MethodName) jdk_29_method_69_code (2 : Nat) (Option.some Jvm.ClassFile.FieldType.int)).before args0 about1 = true := code_word (m := ⟨16, 1⟩) (meth := k16m1) (c := k16c1) (by decide +kernel) rfl rfl rfl (by decide +kernel)
set_option maxRecDepth 65536 in
theorem w_c32 : (Jvm.Cond.code ({ cls := "com/example/tuikuan/tuikuan/OptionSynopsisPinLaw", name := "ok", desc := "(Ljava/lang/String;IICCCC)Z" } : Jvm.MethodName) method_3_code (9 : Nat) (Option.some Jvm.ClassFile.FieldType.boolean)).before args0 about1 = true := code_word (m := ⟨1, 2⟩) (meth := k1m2) (c := k1c2) (by decide +kernel) rfl rfl rfl (by decide +kernel)
set_option maxRecDepth 65536 in
theorem w_c33 : (Jvm.Cond.code ({ cls := "java/lang/String", name := "charAt", desc := "(I)C" } : Jvm.MethodName) jdk_42_method_56_code (2 : Nat) (Option.some Jvm.ClassFile.FieldType.char)).before args0 about1 = true := code_word (m := ⟨7, 4⟩) (meth := k7m4) (c := k7c4) (by decide +kernel) rfl rfl rfl (by decide +kernel)
set_option maxRecDepth 65536 in
theorem w_c34 : (Jvm.Cond.code ({ cls := "java/lang/String", name := "isLatin1", desc := "()Z" } : Jvm.MethodName) jdk_42_method_154_code (1 : Nat) (Option.some Jvm.ClassFile.FieldType.boolean)).before args0 about1 = true := code_word (m := ⟨7, 11⟩) (meth := k7m11) (c := k7c11) (by decide +kernel) rfl rfl rfl (by decide +kernel)
set_option maxRecDepth 65536 in
theorem w_c35 : (Jvm.Cond.code ({ cls := "java/lang/StringLatin1", name := "charAt", desc := "([BI)C" } : Jvm.MethodName) jdk_43_method_2_code (2 : Nat) (Option.some Jvm.ClassFile.FieldType.char)).before args0 about1 = true := code_word (m := ⟨17, 1⟩) (meth := k17m1) (c := k17c1) (by decide +kernel) rfl rfl rfl (by decide +kernel)
set_option maxRecDepth 65536 in
theorem w_c36 : (Jvm.Cond.code ({ cls := "java/lang/String", name := "checkIndex", desc := "(II)V" } : Jvm.MethodName) jdk_42_method_155_code (2 : Nat) (Option.none : Option Jvm.ClassFile.FieldType)).before args0 about1 = true := code_word (m := ⟨7, 12⟩) (meth := k7m12) (c := k7c12) (by decide +kernel) rfl rfl rfl (by decide +kernel)
set_option maxRecDepth 65536 in
theorem w_c37 : (Jvm.Cond.code ({ cls := "jdk/internal/util/Preconditions", name := "checkIndex", desc := "(IILjava/util/function/BiFunction;)I" } : Jvm.MethodName) jdk_41_method_11_code (3 : Nat) (Option.some Jvm.ClassFile.FieldType.int)).before args0 about1 = true := code_word (m := ⟨18, 1⟩) (meth := k18m1) (c := k18c1) (by decide +kernel) rfl rfl rfl (by decide +kernel)
set_option maxRecDepth 65536 in
theorem w_c38 : (Jvm.Cond.code ({ cls := "java/lang/String", name := "valueOf", desc := "(C)Ljava/lang/String;" } : Jvm.MethodName) jdk_42_method_139_code (1 : Nat) (Option.some (Jvm.ClassFile.FieldType.object "java/lang/String"))).before args0 about1 = true := code_word (m := ⟨7, 5⟩) (meth := k7m5) (c := k7c5) (by decide +kernel) rfl rfl rfl (by decide +kernel)
set_option maxRecDepth 65536 in
theorem w_c39 : (Jvm.Cond.code ({ cls := "java/lang/StringLatin1", name := "canEncode", desc := "(C)Z" } : Jvm.MethodName) jdk_43_method_3_code (1 : Nat) (Option.some Jvm.ClassFile.FieldType.boolean)).before args0 about1 = true := code_word (m := ⟨17, 2⟩) (meth := k17m2) (c := k17c2) (by decide +kernel) rfl rfl rfl (by decide +kernel)
set_option maxRecDepth 65536 in
theorem w_c40 : (Jvm.Cond.code ({ cls := "java/lang/StringUTF16", name := "toBytes", desc := "(C)[B" } : Jvm.MethodName) jdk_52_method_24_code (2 : Nat) (Option.some (Jvm.ClassFile.FieldType.array Jvm.ClassFile.FieldType.byte))).before args0 about1 = true := code_word (m := ⟨8, 10⟩) (meth := k8m10) (c := k8c10) (by decide +kernel) rfl rfl rfl (by decide +kernel)
set_option maxRecDepth 65536 in
theorem w_c41 : (Jvm.Cond.code ({ cls := "java/lang/StringUTF16", name := "putChar", desc := "([BII)V" } : Jvm.MethodName) jdk_52_method_4_code (3 : Nat) (Option.none : Option Jvm.ClassFile.FieldType)).before args0 about1 = true := code_word (m := ⟨8, 3⟩) (meth := k8m3) (c := k8c3) (by decide +kernel) rfl rfl rfl (by decide +kernel)
set_option maxRecDepth 65536 in
theorem w_c42 : (Jvm.Cond.code ({ cls := "java/lang/String", name := "<init>", desc := "([BB)V" } : Jvm.MethodName) jdk_42_method_151_code (3 : Nat) (Option.none : Option Jvm.ClassFile.FieldType)).before args0 about1 = true := code_word (m := ⟨7, 9⟩) (meth := k7m9) (c := k7c9) (by decide +kernel) rfl rfl rfl (by decide +kernel)
set_option maxRecDepth 65536 in
theorem w_c43 : (Jvm.Cond.code ({ cls := "java/lang/AbstractStringBuilder", name := "inflate", desc := "()V" } : Jvm.MethodName) jdk_68_method_11_code (2 : Nat) (Option.none : Option Jvm.ClassFile.FieldType)).before args0 about1 = true := code_word (m := ⟨12, 4⟩) (meth := k12m4) (c := k12c4) (by decide +kernel) rfl rfl rfl (by decide +kernel)
set_option maxRecDepth 65536 in
theorem w_c44 : (Jvm.Cond.code ({ cls := "java/lang/StringUTF16", name := "newBytesFor", desc := "(I)[B" } : Jvm.MethodName) jdk_52_method_2_code (1 : Nat) (Option.some (Jvm.ClassFile.FieldType.array Jvm.ClassFile.FieldType.byte))).before args0 about1 = true := code_word (m := ⟨8, 1⟩) (meth := k8m1) (c := k8c1) (by decide +kernel) rfl rfl rfl (by decide +kernel)
set_option maxRecDepth 65536 in
theorem w_c45 : (Jvm.Cond.code ({ cls := "java/lang/StringUTF16", name := "newBytesLength", desc := "(I)I" } : Jvm.MethodName) jdk_52_method_3_code (1 : Nat) (Option.some Jvm.ClassFile.FieldType.int)).before args0 about1 = true := code_word (m := ⟨8, 2⟩) (meth := k8m2) (c := k8c2) (by decide +kernel) rfl rfl rfl (by decide +kernel)
set_option maxRecDepth 65536 in
theorem w_c46 : (Jvm.Cond.code ({ cls := "java/lang/StringLatin1", name := "inflate", desc := "([BI[BII)V" } : Jvm.MethodName) jdk_43_method_50_code (5 : Nat) (Option.none : Option Jvm.ClassFile.FieldType)).before args0 about1 = true := code_word (m := ⟨17, 4⟩) (meth := k17m4) (c := k17c4) (by decide +kernel) rfl rfl rfl (by decide +kernel)
set_option maxRecDepth 65536 in
theorem w_c47 : (Jvm.Cond.code ({ cls := "java/lang/StringUTF16", name := "inflate", desc := "([BI[BII)V" } : Jvm.MethodName) jdk_52_method_86_code (6 : Nat) (Option.none : Option Jvm.ClassFile.FieldType)).before args0 about1 = true := code_word (m := ⟨8, 12⟩) (meth := k8m12) (c := k8c12) (by decide +kernel) rfl rfl rfl (by decide +kernel)
set_option maxRecDepth 65536 in
theorem w_c48 : (Jvm.Cond.code ({ cls := "java/lang/StringUTF16", name := "checkBoundsOffCount", desc := "(II[B)V" } : Jvm.MethodName) jdk_52_method_94_code (3 : Nat) (Option.none : Option Jvm.ClassFile.FieldType)).before args0 about1 = true := code_word (m := ⟨8, 14⟩) (meth := k8m14) (c := k8c14) (by decide +kernel) rfl rfl rfl (by decide +kernel)
set_option maxRecDepth 65536 in
theorem w_c49 : (Jvm.Cond.code ({ cls := "java/lang/StringUTF16", name := "length", desc := "([B)I" } : Jvm.MethodName) jdk_52_method_6_code (1 : Nat) (Option.some Jvm.ClassFile.FieldType.int)).before args0 about1 = true := code_word (m := ⟨8, 5⟩) (meth := k8m5) (c := k8c5) (by decide +kernel) rfl rfl rfl (by decide +kernel)
set_option maxRecDepth 65536 in
theorem w_c50 : (Jvm.Cond.code ({ cls := "java/lang/String", name := "checkBoundsOffCount", desc := "(III)I" } : Jvm.MethodName) jdk_42_method_157_code (3 : Nat) (Option.some Jvm.ClassFile.FieldType.int)).before args0 about1 = true := code_word (m := ⟨7, 13⟩) (meth := k7m13) (c := k7c13) (by decide +kernel) rfl rfl rfl (by decide +kernel)
set_option maxRecDepth 65536 in
theorem w_c51 : (Jvm.Cond.code ({ cls := "jdk/internal/util/Preconditions", name := "checkFromIndexSize", desc := "(IIILjava/util/function/BiFunction;)I" } : Jvm.MethodName) jdk_41_method_13_code (4 : Nat) (Option.some Jvm.ClassFile.FieldType.int)).before args0 about1 = true := code_word (m := ⟨18, 2⟩) (meth := k18m2) (c := k18c2) (by decide +kernel) rfl rfl rfl (by decide +kernel)
set_option maxRecDepth 65536 in
theorem w_c52 : (Jvm.Cond.code ({ cls := "java/lang/StringUTF16", name := "charAt", desc := "([BI)C" } : Jvm.MethodName) jdk_52_method_83_code (2 : Nat) (Option.some Jvm.ClassFile.FieldType.char)).before args0 about1 = true := code_word (m := ⟨8, 11⟩) (meth := k8m11) (c := k8c11) (by decide +kernel) rfl rfl rfl (by decide +kernel)
set_option maxRecDepth 65536 in
theorem w_c53 : (Jvm.Cond.code ({ cls := "java/lang/StringUTF16", name := "checkIndex", desc := "(I[B)V" } : Jvm.MethodName) jdk_52_method_91_code (2 : Nat) (Option.none : Option Jvm.ClassFile.FieldType)).before args0 about1 = true := code_word (m := ⟨8, 13⟩) (meth := k8m13) (c := k8c13) (by decide +kernel) rfl rfl rfl (by decide +kernel)
set_option maxRecDepth 65536 in
theorem w_c54 : (Jvm.Cond.code ({ cls := "java/lang/StringUTF16", name := "getChar", desc := "([BI)C" } : Jvm.MethodName) jdk_52_method_5_code (2 : Nat) (Option.some Jvm.ClassFile.FieldType.char)).before args0 about1 = true := code_word (m := ⟨8, 4⟩) (meth := k8m4) (c := k8c4) (by decide +kernel) rfl rfl rfl (by decide +kernel)
set_option maxRecDepth 65536 in
theorem w_c55 : (Jvm.Cond.code ({ cls := "java/lang/StringLatin1", name := "toBytes", desc := "(C)[B" } : Jvm.MethodName) jdk_43_method_46_code (1 : Nat) (Option.some (Jvm.ClassFile.FieldType.array Jvm.ClassFile.FieldType.byte))).before args0 about1 = true := code_word (m := ⟨17, 3⟩) (meth := k17m3) (c := k17c3) (by decide +kernel) rfl rfl rfl (by decide +kernel)
set_option maxRecDepth 65536 in
theorem w_c56 : (Jvm.Cond.code ({ cls := "java/lang/StringUTF16", name := "toBytes", desc := "([CII)[B" } : Jvm.MethodName) jdk_52_method_14_code (5 : Nat) (Option.some (Jvm.ClassFile.FieldType.array Jvm.ClassFile.FieldType.byte))).before args0 about1 = true := code_word (m := ⟨8, 6⟩) (meth := k8m6) (c := k8c6) (by decide +kernel) rfl rfl rfl (by decide +kernel)
def codes1 : List Jvm.Cond := [Jvm.Cond.code x code maxLocals ret, Jvm.Cond.code ({ cls := "com/example/tuikuan/tuikuan/OptionSynopsisPinLaw", name := "make", desc := "(ICC)Ljava/lang/String;" } : Jvm.MethodName) method_2_code (3 : Nat) (Option.some (Jvm.ClassFile.FieldType.object "java/lang/String")), Jvm.Cond.code ({ cls := "java/lang/String", name := "<init>", desc := "([C)V" } : Jvm.MethodName) jdk_42_method_3_code (2 : Nat) (Option.none : Option Jvm.ClassFile.FieldType), Jvm.Cond.code ({ cls := "java/lang/String", name := "<init>", desc := "([CIILjava/lang/Void;)V" } : Jvm.MethodName) jdk_42_method_149_code (6 : Nat) (Option.none : Option Jvm.ClassFile.FieldType), Jvm.Cond.code ({ cls := "java/lang/Object", name := "<init>", desc := "()V" } : Jvm.MethodName) object_method_1_code (1 : Nat) (Option.none : Option Jvm.ClassFile.FieldType), Jvm.Cond.code ({ cls := "java/lang/StringUTF16", name := "compress", desc := "([CII)[B" } : Jvm.MethodName) jdk_52_method_16_code (6 : Nat) (Option.some (Jvm.ClassFile.FieldType.array Jvm.ClassFile.FieldType.byte)), Jvm.Cond.code ({ cls := "java/lang/StringUTF16", name := "compress", desc := "([CI[BII)I" } : Jvm.MethodName) jdk_52_method_21_code (7 : Nat) (Option.some Jvm.ClassFile.FieldType.int), Jvm.Cond.code ({ cls := "java/lang/StringUTF16", name := "coderFromArrayLen", desc := "([BI)B" } : Jvm.MethodName) jdk_52_method_15_code (2 : Nat) (Option.some Jvm.ClassFile.FieldType.byte), Jvm.Cond.code ({ cls := "com/example/tuikuan/tuikuan/Usage$Option", name := "<init>", desc := "(Ljava/lang/String;Ljava/lang/String;Ljava/lang/String;)V" } : Jvm.MethodName) prog_35_method_1_code (4 : Nat) (Option.none : Option Jvm.ClassFile.FieldType), Jvm.Cond.code ({ cls := "java/lang/Record", name := "<init>", desc := "()V" } : Jvm.MethodName) jdk_30_method_1_code (1 : Nat) (Option.none : Option Jvm.ClassFile.FieldType), Jvm.Cond.code ({ cls := "com/example/tuikuan/tuikuan/Usage$Option", name := "synopsis", desc := "()Ljava/lang/String;" } : Jvm.MethodName) prog_35_method_2_code (1 : Nat) (Option.some (Jvm.ClassFile.FieldType.object "java/lang/String")), Jvm.Cond.code ({ cls := "java/lang/StringBuilder", name := "<init>", desc := "()V" } : Jvm.MethodName) jdk_67_method_1_code (1 : Nat) (Option.none : Option Jvm.ClassFile.FieldType), Jvm.Cond.code ({ cls := "java/lang/AbstractStringBuilder", name := "<init>", desc := "(I)V" } : Jvm.MethodName) jdk_68_method_2_code (2 : Nat) (Option.none : Option Jvm.ClassFile.FieldType), Jvm.Cond.code ({ cls := "java/lang/StringBuilder", name := "append", desc := "(Ljava/lang/String;)Ljava/lang/StringBuilder;" } : Jvm.MethodName) jdk_67_method_7_code (2 : Nat) (Option.some (Jvm.ClassFile.FieldType.object "java/lang/StringBuilder")), Jvm.Cond.code ({ cls := "java/lang/AbstractStringBuilder", name := "append", desc := "(Ljava/lang/String;)Ljava/lang/AbstractStringBuilder;" } : Jvm.MethodName) jdk_68_method_22_code (3 : Nat) (Option.some (Jvm.ClassFile.FieldType.object "java/lang/AbstractStringBuilder")), Jvm.Cond.code ({ cls := "java/lang/String", name := "length", desc := "()I" } : Jvm.MethodName) jdk_42_method_54_code (1 : Nat) (Option.some Jvm.ClassFile.FieldType.int), Jvm.Cond.code ({ cls := "java/lang/String", name := "coder", desc := "()B" } : Jvm.MethodName) jdk_42_method_152_code (1 : Nat) (Option.some Jvm.ClassFile.FieldType.byte), Jvm.Cond.code ({ cls := "java/lang/AbstractStringBuilder", name := "ensureCapacityInternal", desc := "(I)V" } : Jvm.MethodName) jdk_68_method_9_code (3 : Nat) (Option.none : Option Jvm.ClassFile.FieldType), Jvm.Cond.code ({ cls := "java/lang/AbstractStringBuilder", name := "putStringAt", desc := "(ILjava/lang/String;)V" } : Jvm.MethodName) jdk_68_method_73_code (3 : Nat) (Option.none : Option Jvm.ClassFile.FieldType), Jvm.Cond.code ({ cls := "java/lang/AbstractStringBuilder", name := "inflateIfNeededFor", desc := "(Ljava/lang/String;)V" } : Jvm.MethodName) jdk_68_method_71_code (2 : Nat) (Option.none : Option Jvm.ClassFile.FieldType), Jvm.Cond.code ({ cls := "java/lang/String", name := "getBytes", desc := "([BIB)V" } : Jvm.MethodName) jdk_42_method_147_code (4 : Nat) (Option.none : Option Jvm.ClassFile.FieldType), Jvm.Cond.code ({ cls := "java/lang/StringBuilder", name := "toString", desc := "()Ljava/lang/String;" } : Jvm.MethodName) jdk_67_method_42_code (1 : Nat) (Option.some (Jvm.ClassFile.FieldType.object "java/lang/String")), Jvm.Cond.code ({ cls := "java/lang/String", name := "<init>", desc := "(Ljava/lang/StringBuilder;)V" } : Jvm.MethodName) jdk_42_method_53_code (2 : Nat) (Option.none : Option Jvm.ClassFile.FieldType), Jvm.Cond.code ({ cls := "java/lang/String", name := "<init>", desc := "(Ljava/lang/AbstractStringBuilder;Ljava/lang/Void;)V" } : Jvm.MethodName) jdk_42_method_150_code (5 : Nat) (Option.none : Option Jvm.ClassFile.FieldType), Jvm.Cond.code ({ cls := "java/lang/AbstractStringBuilder", name := "getValue", desc := "()[B" } : Jvm.MethodName) jdk_68_method_64_code (1 : Nat) (Option.some (Jvm.ClassFile.FieldType.array Jvm.ClassFile.FieldType.byte)), Jvm.Cond.code ({ cls := "java/lang/StringBuilder", name := "length", desc := "()I" } : Jvm.MethodName) jdk_67_method_93_code (1 : Nat) (Option.some Jvm.ClassFile.FieldType.int), Jvm.Cond.code ({ cls := "java/lang/AbstractStringBuilder", name := "length", desc := "()I" } : Jvm.MethodName) jdk_68_method_6_code (1 : Nat) (Option.some Jvm.ClassFile.FieldType.int), Jvm.Cond.code ({ cls := "java/lang/AbstractStringBuilder", name := "isLatin1", desc := "()Z" } : Jvm.MethodName) jdk_68_method_68_code (1 : Nat) (Option.some Jvm.ClassFile.FieldType.boolean), Jvm.Cond.code ({ cls := "java/util/Arrays", name := "copyOfRange", desc := "([BII)[B" } : Jvm.MethodName) jdk_65_method_132_code (3 : Nat) (Option.some (Jvm.ClassFile.FieldType.array Jvm.ClassFile.FieldType.byte)), Jvm.Cond.code ({ cls := "java/util/Arrays", name := "copyOfRangeByte", desc := "([BII)[B" } : Jvm.MethodName) jdk_65_method_133_code (5 : Nat) (Option.some (Jvm.ClassFile.FieldType.array Jvm.ClassFile.FieldType.byte)), Jvm.Cond.code ({ cls := "java/util/Arrays", name := "checkLength", desc := "(II)V" } : Jvm.MethodName) jdk_65_method_131_code (2 : Nat) (Option.none : Option Jvm.ClassFile.FieldType), Jvm.Cond.code ({ cls := "java/lang/Math", name := "min", desc := "(II)I" } : Jvm.MethodName) jdk_29_method_69_code (2 : Nat) (Option.some Jvm.ClassFile.FieldType.int), Jvm.Cond.code ({ cls := "com/example/tuikuan/tuikuan/OptionSynopsisPinLaw", name := "ok", desc := "(Ljava/lang/String;IICCCC)Z" } : Jvm.MethodName) method_3_code (9 : Nat) (Option.some Jvm.ClassFile.FieldType.boolean), Jvm.Cond.code ({ cls := "java/lang/String", name := "charAt", desc := "(I)C" } : Jvm.MethodName) jdk_42_method_56_code (2 : Nat) (Option.some Jvm.ClassFile.FieldType.char), Jvm.Cond.code ({ cls := "java/lang/String", name := "isLatin1", desc := "()Z" } : Jvm.MethodName) jdk_42_method_154_code (1 : Nat) (Option.some Jvm.ClassFile.FieldType.boolean), Jvm.Cond.code ({ cls := "java/lang/StringLatin1", name := "charAt", desc := "([BI)C" } : Jvm.MethodName) jdk_43_method_2_code (2 : Nat) (Option.some Jvm.ClassFile.FieldType.char), Jvm.Cond.code ({ cls := "java/lang/String", name := "checkIndex", desc := "(II)V" } : Jvm.MethodName) jdk_42_method_155_code (2 : Nat) (Option.none : Option Jvm.ClassFile.FieldType), Jvm.Cond.code ({ cls := "jdk/internal/util/Preconditions", name := "checkIndex", desc := "(IILjava/util/function/BiFunction;)I" } : Jvm.MethodName) jdk_41_method_11_code (3 : Nat) (Option.some Jvm.ClassFile.FieldType.int), Jvm.Cond.code ({ cls := "java/lang/String", name := "valueOf", desc := "(C)Ljava/lang/String;" } : Jvm.MethodName) jdk_42_method_139_code (1 : Nat) (Option.some (Jvm.ClassFile.FieldType.object "java/lang/String")), Jvm.Cond.code ({ cls := "java/lang/StringLatin1", name := "canEncode", desc := "(C)Z" } : Jvm.MethodName) jdk_43_method_3_code (1 : Nat) (Option.some Jvm.ClassFile.FieldType.boolean), Jvm.Cond.code ({ cls := "java/lang/StringUTF16", name := "toBytes", desc := "(C)[B" } : Jvm.MethodName) jdk_52_method_24_code (2 : Nat) (Option.some (Jvm.ClassFile.FieldType.array Jvm.ClassFile.FieldType.byte)), Jvm.Cond.code ({ cls := "java/lang/StringUTF16", name := "putChar", desc := "([BII)V" } : Jvm.MethodName) jdk_52_method_4_code (3 : Nat) (Option.none : Option Jvm.ClassFile.FieldType), Jvm.Cond.code ({ cls := "java/lang/String", name := "<init>", desc := "([BB)V" } : Jvm.MethodName) jdk_42_method_151_code (3 : Nat) (Option.none : Option Jvm.ClassFile.FieldType), Jvm.Cond.code ({ cls := "java/lang/AbstractStringBuilder", name := "inflate", desc := "()V" } : Jvm.MethodName) jdk_68_method_11_code (2 : Nat) (Option.none : Option Jvm.ClassFile.FieldType), Jvm.Cond.code ({ cls := "java/lang/StringUTF16", name := "newBytesFor", desc := "(I)[B" } : Jvm.MethodName) jdk_52_method_2_code (1 : Nat) (Option.some (Jvm.ClassFile.FieldType.array Jvm.ClassFile.FieldType.byte)), Jvm.Cond.code ({ cls := "java/lang/StringUTF16", name := "newBytesLength", desc := "(I)I" } : Jvm.MethodName) jdk_52_method_3_code (1 : Nat) (Option.some Jvm.ClassFile.FieldType.int), Jvm.Cond.code ({ cls := "java/lang/StringLatin1", name := "inflate", desc := "([BI[BII)V" } : Jvm.MethodName) jdk_43_method_50_code (5 : Nat) (Option.none : Option Jvm.ClassFile.FieldType), Jvm.Cond.code ({ cls := "java/lang/StringUTF16", name := "inflate", desc := "([BI[BII)V" } : Jvm.MethodName) jdk_52_method_86_code (6 : Nat) (Option.none : Option Jvm.ClassFile.FieldType), Jvm.Cond.code ({ cls := "java/lang/StringUTF16", name := "checkBoundsOffCount", desc := "(II[B)V" } : Jvm.MethodName) jdk_52_method_94_code (3 : Nat) (Option.none : Option Jvm.ClassFile.FieldType), Jvm.Cond.code ({ cls := "java/lang/StringUTF16", name := "length", desc := "([B)I" } : Jvm.MethodName) jdk_52_method_6_code (1 : Nat) (Option.some Jvm.ClassFile.FieldType.int), Jvm.Cond.code ({ cls := "java/lang/String", name := "checkBoundsOffCount", desc := "(III)I" } : Jvm.MethodName) jdk_42_method_157_code (3 : Nat) (Option.some Jvm.ClassFile.FieldType.int), Jvm.Cond.code ({ cls := "jdk/internal/util/Preconditions", name := "checkFromIndexSize", desc := "(IIILjava/util/function/BiFunction;)I" } : Jvm.MethodName) jdk_41_method_13_code (4 : Nat) (Option.some Jvm.ClassFile.FieldType.int), Jvm.Cond.code ({ cls := "java/lang/StringUTF16", name := "charAt", desc := "([BI)C" } : Jvm.MethodName) jdk_52_method_83_code (2 : Nat) (Option.some Jvm.ClassFile.FieldType.char), Jvm.Cond.code ({ cls := "java/lang/StringUTF16", name := "checkIndex", desc := "(I[B)V" } : Jvm.MethodName) jdk_52_method_91_code (2 : Nat) (Option.none : Option Jvm.ClassFile.FieldType), Jvm.Cond.code ({ cls := "java/lang/StringUTF16", name := "getChar", desc := "([BI)C" } : Jvm.MethodName) jdk_52_method_5_code (2 : Nat) (Option.some Jvm.ClassFile.FieldType.char), Jvm.Cond.code ({ cls := "java/lang/StringLatin1", name := "toBytes", desc := "(C)[B" } : Jvm.MethodName) jdk_43_method_46_code (1 : Nat) (Option.some (Jvm.ClassFile.FieldType.array Jvm.ClassFile.FieldType.byte)), Jvm.Cond.code ({ cls := "java/lang/StringUTF16", name := "toBytes", desc := "([CII)[B" } : Jvm.MethodName) jdk_52_method_14_code (5 : Nat) (Option.some (Jvm.ClassFile.FieldType.array Jvm.ClassFile.FieldType.byte))]
set_option maxRecDepth 65536 in
theorem codes_eq : words1.filter isCode = codes1 := rfl
theorem w_codes : ∀ c ∈ words1.filter isCode, c.before args0 about1 = true := by
  rw [codes_eq]
  intro c hc
  simp only [codes1, List.mem_cons, List.not_mem_nil, or_false] at hc
  rcases hc with rfl | rfl | rfl | rfl | rfl | rfl | rfl | rfl | rfl | rfl | rfl | rfl | rfl | rfl | rfl | rfl | rfl | rfl | rfl | rfl | rfl | rfl | rfl | rfl | rfl | rfl | rfl | rfl | rfl | rfl | rfl | rfl | rfl | rfl | rfl | rfl | rfl | rfl | rfl | rfl | rfl | rfl | rfl | rfl | rfl | rfl | rfl | rfl | rfl | rfl | rfl | rfl | rfl | rfl | rfl | rfl | rfl
  · exact w_c0
  · exact w_c1
  · exact w_c2
  · exact w_c3
  · exact w_c4
  · exact w_c5
  · exact w_c6
  · exact w_c7
  · exact w_c8
  · exact w_c9
  · exact w_c10
  · exact w_c11
  · exact w_c12
  · exact w_c13
  · exact w_c14
  · exact w_c15
  · exact w_c16
  · exact w_c17
  · exact w_c18
  · exact w_c19
  · exact w_c20
  · exact w_c21
  · exact w_c22
  · exact w_c23
  · exact w_c24
  · exact w_c25
  · exact w_c26
  · exact w_c27
  · exact w_c28
  · exact w_c29
  · exact w_c30
  · exact w_c31
  · exact w_c32
  · exact w_c33
  · exact w_c34
  · exact w_c35
  · exact w_c36
  · exact w_c37
  · exact w_c38
  · exact w_c39
  · exact w_c40
  · exact w_c41
  · exact w_c42
  · exact w_c43
  · exact w_c44
  · exact w_c45
  · exact w_c46
  · exact w_c47
  · exact w_c48
  · exact w_c49
  · exact w_c50
  · exact w_c51
  · exact w_c52
  · exact w_c53
  · exact w_c54
  · exact w_c55
  · exact w_c56
set_option maxRecDepth 65536 in
theorem w_t1 : (words1.take 24).all (fun c => isCode c || c.before args0 about1) = true := by decide +kernel
set_option maxRecDepth 65536 in
theorem w_t2 : ((words1.drop 24).take 24).all (fun c => isCode c || c.before args0 about1) = true := by decide +kernel
set_option maxRecDepth 65536 in
theorem w_t3 : (((words1.drop 24).drop 24).take 24).all (fun c => isCode c || c.before args0 about1) = true := by decide +kernel
set_option maxRecDepth 65536 in
theorem w_t4 : ((((words1.drop 24).drop 24).drop 24).take 24).all (fun c => isCode c || c.before args0 about1) = true := by decide +kernel
set_option maxRecDepth 65536 in
theorem w_t5 : (((((words1.drop 24).drop 24).drop 24).drop 24).take 24).all (fun c => isCode c || c.before args0 about1) = true := by decide +kernel
set_option maxRecDepth 65536 in
theorem w_t6 : ((((((words1.drop 24).drop 24).drop 24).drop 24).drop 24).take 24).all (fun c => isCode c || c.before args0 about1) = true := by decide +kernel
set_option maxRecDepth 65536 in
theorem w_t7 : (((((((words1.drop 24).drop 24).drop 24).drop 24).drop 24).drop 24).take 24).all (fun c => isCode c || c.before args0 about1) = true := by decide +kernel
set_option maxRecDepth 65536 in
theorem w_t8 : ((((((((words1.drop 24).drop 24).drop 24).drop 24).drop 24).drop 24).drop 24).take 24).all (fun c => isCode c || c.before args0 about1) = true := by decide +kernel
set_option maxRecDepth 65536 in
theorem w_t9 : (((((((((words1.drop 24).drop 24).drop 24).drop 24).drop 24).drop 24).drop 24).drop 24).take 24).all (fun c => isCode c || c.before args0 about1) = true := by decide +kernel
set_option maxRecDepth 65536 in
theorem w_t10 : ((((((((((words1.drop 24).drop 24).drop 24).drop 24).drop 24).drop 24).drop 24).drop 24).drop 24).take 24).all (fun c => isCode c || c.before args0 about1) = true := by decide +kernel
set_option maxRecDepth 65536 in
theorem w_t11 : (((((((((((words1.drop 24).drop 24).drop 24).drop 24).drop 24).drop 24).drop 24).drop 24).drop 24).drop 24).take 24).all (fun c => isCode c || c.before args0 about1) = true := by decide +kernel
set_option maxRecDepth 65536 in
theorem w_t12 : (((((((((((words1.drop 24).drop 24).drop 24).drop 24).drop 24).drop 24).drop 24).drop 24).drop 24).drop 24).drop 24).all (fun c => isCode c || c.before args0 about1) = true := by decide +kernel
theorem w_tables : (allAtoms (Jvm.Cond.code x code maxLocals ret :: tables_1)).before args0 about1 = true := by
  rw [allAtoms_all]
  show words1.all (fun c => c.before args0 about1) = true
  refine all_split ?_ w_codes
  rw [← List.take_append_drop 24 words1, List.all_append, w_t1, ← List.take_append_drop 24 (words1.drop 24), List.all_append, w_t2, ← List.take_append_drop 24 ((words1.drop 24).drop 24), List.all_append, w_t3, ← List.take_append_drop 24 (((words1.drop 24).drop 24).drop 24), List.all_append, w_t4, ← List.take_append_drop 24 ((((words1.drop 24).drop 24).drop 24).drop 24), List.all_append, w_t5, ← List.take_append_drop 24 (((((words1.drop 24).drop 24).drop 24).drop 24).drop 24), List.all_append, w_t6, ← List.take_append_drop 24 ((((((words1.drop 24).drop 24).drop 24).drop 24).drop 24).drop 24), List.all_append, w_t7, ← List.take_append_drop 24 (((((((words1.drop 24).drop 24).drop 24).drop 24).drop 24).drop 24).drop 24), List.all_append, w_t8, ← List.take_append_drop 24 ((((((((words1.drop 24).drop 24).drop 24).drop 24).drop 24).drop 24).drop 24).drop 24), List.all_append, w_t9, ← List.take_append_drop 24 (((((((((words1.drop 24).drop 24).drop 24).drop 24).drop 24).drop 24).drop 24).drop 24).drop 24), List.all_append, w_t10, ← List.take_append_drop 24 ((((((((((words1.drop 24).drop 24).drop 24).drop 24).drop 24).drop 24).drop 24).drop 24).drop 24).drop 24), List.all_append, w_t11, w_t12]
  rfl
set_option maxRecDepth 65536 in
theorem w_rest : rest_1_c.before args0 about1 = true := by decide +kernel
set_option maxRecDepth 65536 in
theorem w_case : (Jvm.Cond.and given_1 narrow_1).before args0 about1 = true := by decide +kernel
set_option maxRecDepth 65536 in
theorem w_consts : constsHeld consts_1 about1 := Jvm.Lit.constsHeldB_iff.mp (by decide +kernel)
theorem w_applies : (headSpec (Jvm.Cond.code x code maxLocals ret :: tables_1) room_1).applies x e0.platform about1 = true :=
  (Spec.applies_iff w_frames).mpr ⟨w_running, w_runnable, w_alone, w_named, w_hears, w_ripe, w_room, w_tables⟩
theorem atStart : AtStart classFile x code maxLocals ret World_1 tables_1 room_1 Calls_1 rest_1 Pre_1 launch0 p0 e0 about1 theMethod args0 below0 :=
  ⟨lists_1, trivial, launch0.admits_env _ _ _, launch0.least_env, fairChoices_fair.cas, fairChoices_fair.clock, w_frames, w_args, w_heap, w_applies, ⟨w_consts, trivial⟩, w_rest, w_case⟩
end start1
theorem witness_1 : WitnessClaimed_1 := ⟨start1.p0, start1.e0, start1.about1, start1.theMethod, start1.args0, start1.below0, start1.atStart⟩
end Jvm.Pilot.@@N@@
