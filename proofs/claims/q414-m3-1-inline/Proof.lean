import JvmDerived
import JvmDerived.Pilot.@@N@@Statement
import JvmDerived.Pilot.@@N@@Code
set_option linter.unusedVariables false
set_option linter.unusedSimpArgs false

/- laws to paste: Road.backV, Road.codOf, Road.lenW, Road.chN (cut by pick.py; bodies as the Statement names them) -/
namespace Jvm.Pilot.@@N@@
namespace StrChars
open Jvm Sem ClassFile Op Lib Jvm.Stand Jvm.Free.XT Jvm.Free.ALB Jvm.Free.JM Jvm.Free
open Jvm.Lib.Cold (StaticIs)
/-- a char array whose places are chars -/
def Ch (a : Addr) (A : Cell) (U : State) : Prop := Arr .char a A U ∧ Typed .char A
theorem Ch.mv {a : Addr} {A : Cell} {U U' : State} (h : Ch a A U) (hal : U.vm.Alike U'.vm) (hh : U'.heap = U.heap) : Ch a A U' := ⟨h.1.mv hal hh, h.2⟩
theorem Ch.keep {a : Addr} {A : Cell} {U U' : State} (h : Ch a A U) (hal : U.vm.Alike U'.vm) (hk : U'.heap[a]? = some A) : Ch a A U' := ⟨h.1.keep hal hk, h.2⟩
/-- what place i of a char[]'s cell holds -/
def cv (A : Cell) (i : Nat) : Int32 := match A.slots[i]? with | some (.int x) => x | _ => 0
theorem Ch.get {a : Addr} {A : Cell} {U : State} (h : Ch a A U) {i : Nat} (hi : i < A.slots.size) : A.slots[i]? = some (.int (cv A i)) := by
  have e := Array.getElem?_eq_getElem hi
  have f := h.2 i _ e
  unfold cv; rw [e]
  generalize A.slots[i] = v at f
  cases v <;> simp [fits] at f ⊢
/-- the byte that i2b leaves of a char -/
def lo8 (x : Int32) : Int32 := x.toInt8.toInt32
theorem fits_lo8 (y : Int32) : fits .byte (.int (lo8 y)) = true := by
  have h1 := y.toInt8.le_toInt
  have h2 := y.toInt8.toInt_lt
  simp only [lo8, fits, Bool.and_eq_true, decide_eq_true_eq, Int32.le_iff_toInt_le, Int8.toInt_toInt32, show (-128 : Int32).toInt = -128 from by decide, show (127 : Int32).toInt = 127 from by decide]
  omega
/-- A' is A but that each place j of lo .. hi - 1 holds f j -/
def Laid (A A' : Cell) (lo hi : Nat) (f : Nat → Value) : Prop := A'.cls = A.cls ∧ A'.vm = A.vm ∧ A'.slots.size = A.slots.size ∧ ∀ i, A'.slots[i]? = if lo ≤ i ∧ i < hi then some (f i) else A.slots[i]?
theorem Laid.zero (A : Cell) (lo : Nat) (f : Nat → Value) : Laid A A lo (lo + 0) f := ⟨rfl, rfl, rfl, fun i => by rw [if_neg (by omega)]⟩
theorem Laid.step {A Ak : Cell} {lo k : Nat} {f : Nat → Value} {v : Value} (h : Laid A Ak lo k f) (hlo : lo ≤ k) (hk : k < Ak.slots.size) (hv : v = f k) : Laid A (Ak.setSlot k v) lo (k + 1) f := by
  refine ⟨h.1, h.2.1, by simpa [Cell.setSlot] using h.2.2.1, fun i => ?_⟩
  by_cases e : k = i
  · subst e; rw [Cell.slots_setSlot_self v hk, if_pos (by omega), hv]
  · rw [Cell.slots_setSlot_ne v e, h.2.2.2 i]
    by_cases q : lo ≤ i ∧ i < k
    · rw [if_pos q, if_pos (by omega)]
    · rw [if_neg q, if_neg (by omega)]
def U16 : String := "java/lang/StringUTF16"
namespace Cmp5
def yN : MethodName := ⟨"java/lang/StringUTF16", "compress", "([CI[BII)I"⟩
abbrev yB : ByteArray := jdk_52_method_21_code
theorem d0 : decode yB 0 = .ok (.iconst 0, 1) := by decide +kernel
theorem d1 : decode yB 1 = .ok (.istore 5, 2) := by decide +kernel
theorem d3 : decode yB 3 = .ok (.iload 5, 2) := by decide +kernel
theorem d5 : decode yB 5 = .ok (.iload 4, 2) := by decide +kernel
theorem d7 : decode yB 7 = .ok (.if_icmp (.ge) 37, 3) := by decide +kernel
theorem d10 : decode yB 10 = .ok (.aload_n 0, 1) := by decide +kernel
theorem d11 : decode yB 11 = .ok (.iload_n 1, 1) := by decide +kernel
theorem d12 : decode yB 12 = .ok (.caload, 1) := by decide +kernel
theorem d13 : decode yB 13 = .ok (.istore 6, 2) := by decide +kernel
theorem d15 : decode yB 15 = .ok (.iload 6, 2) := by decide +kernel
theorem d17 : decode yB 17 = .ok (.sipush 255, 3) := by decide +kernel
theorem d20 : decode yB 20 = .ok (.if_icmp (.le) 6, 3) := by decide +kernel
theorem d26 : decode yB 26 = .ok (.aload_n 2, 1) := by decide +kernel
theorem d27 : decode yB 27 = .ok (.iload_n 3, 1) := by decide +kernel
theorem d28 : decode yB 28 = .ok (.iload 6, 2) := by decide +kernel
theorem d30 : decode yB 30 = .ok (.i2b, 1) := by decide +kernel
theorem d31 : decode yB 31 = .ok (.bastore, 1) := by decide +kernel
theorem d32 : decode yB 32 = .ok (.iinc 1 1, 3) := by decide +kernel
theorem d35 : decode yB 35 = .ok (.iinc 3 1, 3) := by decide +kernel
theorem d38 : decode yB 38 = .ok (.iinc 5 1, 3) := by decide +kernel
theorem d41 : decode yB 41 = .ok (.goto (-38), 3) := by decide +kernel
theorem d44 : decode yB 44 = .ok (.iload 4, 2) := by decide +kernel
theorem d46 : decode yB 46 = .ok (.ireturn, 1) := by decide +kernel
def site : List Cond := []
def tab : Cond := tabOf yN yB 7 (some .int) site
def P (b : Addr) (A : Cell) (d : Addr) (B : Cell) (o q len : Nat) (args : Array Value) (s : State) : Prop := args = #[.ref b, .int (Int32.ofNat o), .ref d, .int (Int32.ofNat q), .int (Int32.ofNat len)] ∧ Ch b A s ∧ Arr .byte d B s ∧ b ≠ d ∧ o + len ≤ A.slots.size ∧ q + len ≤ B.slots.size ∧ ∀ i, i < len → ¬ 255 < cv A (o + i)
def E (b : Addr) (A : Cell) (d : Addr) (B : Cell) (o q len : Nat) (r : Option Value) (s u : State) : Prop := r = some (.int (Int32.ofNat len)) ∧ ∃ B', Put d B' s u ∧ Laid B B' q (q + len) (fun j => Value.int (lo8 (cv A (o + (j - q)))))
/-- no char of the range above 255: len; the places written hold each char's low byte -/
theorem law (l : Launch) (b : Addr) (A : Cell) (d : Addr) (B : Cell) (o q len : Nat) : Law l yN 5 5 0 0 yB 7 (some .int) site (P b A d B o q len) (E b A d B o q len) (copyLocs d q len) 0 0 := by
  refine Law.of_walk (plainFor_of_name (by decide +kernel)) (by decide +kernel) (by decide +kernel) (by decide) (fun _ _ h => by rw [h.1]; rfl) (fun _ U U' hal hh h => ⟨h.1, h.2.1.mv hal hh, h.2.2.1.mv hal hh, h.2.2.2⟩) (fun r U U' V V' h1 hal h2 h => ⟨h.1, h.2.elim fun B' q => ⟨B', q.1.mv h1 h2, q.2⟩⟩) ?_
  intro p e s m args below meth c s₁ X0 hexec hbytes hml hret hlk hnm hown hh0 W hP
  obtain ⟨rfl, hA, hB, hne, l1, l2, hp⟩ := hP
  have c1 : Steps p.tables e below (s₁.setTop (entryFrame m #[.ref b, .int (Int32.ofNat o), .ref d, .int (Int32.ofNat q), .int (Int32.ofNat len)] 7)) (s₁.setTop (mkF m 0 #[.val (.ref b), .val (.int (Int32.ofNat o)), .val (.ref d), .val (.int (Int32.ofNat q)), .val (.int (Int32.ofNat len)), .unset, .unset] [])) := entry rfl
  have hA0 := hA.1.mv X0.warmed.alike hh0
  have hB0 := hB.mv X0.warmed.alike hh0
  have a31 := hA.1.2.2.2
  have c2 : Steps p.tables e below (s₁.setTop (entryFrame m #[.ref b, .int (Int32.ofNat o), .ref d, .int (Int32.ofNat q), .int (Int32.ofNat len)] 7)) (s₁.setTop (mkF m 3 #[.val (.ref b), .val (.int (Int32.ofNat o)), .val (.ref d), .val (.int (Int32.ofNat q)), .val (.int (Int32.ofNat len)), .val (.int 0), .unset] [])) := c1.trans (by
    refine iconstV X0.here hexec rfl 0 (hb hbytes d0) (by decide) ?_
    refine XS.istore X0.here hexec rfl (hb hbytes d1) rfl rfl ?_
    exact Steps.refl _)
  have loop : ∀ (r i : Nat), i + r = len → ∀ (z : Slot), (z = .unset ∨ ∃ w, z = .val w ∧ w.category = 1) → ∀ (Tl : State) (Bk : Cell), Stand p l e { frames := 0, locals := 0, cells := 0, slots := 0 } s m #[.ref b, .int (Int32.ofNat o), .ref d, .int (Int32.ofNat q), .int (Int32.ofNat len)] below meth c Tl ([] ++ copyLocs d q i) 0 0 → Put d Bk s₁ Tl → Laid B Bk q (q + i) (fun j => Value.int (lo8 (cv A (o + (j - q))))) →
      Steps p.tables e below (s₁.setTop (entryFrame m #[.ref b, .int (Int32.ofNat o), .ref d, .int (Int32.ofNat q), .int (Int32.ofNat len)] 7)) (Tl.setTop (mkF m 3 #[.val (.ref b), .val (.int (Int32.ofNat (o + i))), .val (.ref d), .val (.int (Int32.ofNat (q + i))), .val (.int (Int32.ofNat len)), .val (.int (Int32.ofNat i)), z] [])) → ∃ (T' : State) (B' : Cell) (z' : Slot), Stand p l e { frames := 0, locals := 0, cells := 0, slots := 0 } s m #[.ref b, .int (Int32.ofNat o), .ref d, .int (Int32.ofNat q), .int (Int32.ofNat len)] below meth c T' ([] ++ copyLocs d q len) 0 0 ∧ Put d B' s₁ T' ∧ Laid B B' q (q + len) (fun j => Value.int (lo8 (cv A (o + (j - q))))) ∧
      Steps p.tables e below (s₁.setTop (entryFrame m #[.ref b, .int (Int32.ofNat o), .ref d, .int (Int32.ofNat q), .int (Int32.ofNat len)] 7)) (T'.setTop (mkF m 3 #[.val (.ref b), .val (.int (Int32.ofNat (o + len))), .val (.ref d), .val (.int (Int32.ofNat (q + len))), .val (.int (Int32.ofNat len)), .val (.int (Int32.ofNat len)), z'] [])) := by
    intro r
    induction r with
    | zero =>
      intro i hi z hz Tl Bk Xl pl fl cl
      have hil : i = len := by omega
      rw [hil] at Xl fl cl
      exact ⟨Tl, Bk, z, Xl, pl, fl, cl⟩
    | succ r ih =>
      intro i hi z hz Tl Bk Xl pl fl cl
      have all := X0.warmed.alike.symm.trans Xl.warmed.alike
      have hAl := hA0.keep all (pl.other hne hA0.1)
      have hBk := hB0.like all pl.1 fl.1 fl.2.1 fl.2.2.1
      have hlt : q + i < Bk.slots.size := by rw [fl.2.2.1]; omega
      have c3 : Steps p.tables e below (s₁.setTop (entryFrame m #[.ref b, .int (Int32.ofNat o), .ref d, .int (Int32.ofNat q), .int (Int32.ofNat len)] 7)) (Tl.setTop (mkF m 12 #[.val (.ref b), .val (.int (Int32.ofNat (o + i))), .val (.ref d), .val (.int (Int32.ofNat (q + i))), .val (.int (Int32.ofNat len)), .val (.int (Int32.ofNat i)), z] [.int (Int32.ofNat (o + i)), .ref b])) := cl.trans (by
        refine XS.iload Xl.here hexec rfl (hb hbytes d3) rfl ?_
        refine XS.iload Xl.here hexec rfl (hb hbytes d5) rfl ?_
        refine XS.icmpNo Xl.here hexec rfl (hb hbytes d7) rfl (ii_ge_f (lt32 (by omega) (by omega))) ?_
        refine XS.aloadN Xl.here hexec rfl (hb hbytes d10) rfl rfl ?_
        refine XS.iloadN Xl.here hexec rfl (hb hbytes d11) rfl ?_
        exact Steps.refl _)
      have c4 : Steps p.tables e below (s₁.setTop (entryFrame m #[.ref b, .int (Int32.ofNat o), .ref d, .int (Int32.ofNat q), .int (Int32.ofNat len)] 7)) (Tl.setTop (mkF m 13 #[.val (.ref b), .val (.int (Int32.ofNat (o + i))), .val (.ref d), .val (.int (Int32.ofNat (q + i))), .val (.int (Int32.ofNat len)), .val (.int (Int32.ofNat i)), z] [.int (cv A (o + i))])) := c3.trans (by
        refine Xl.aget hexec hAl rfl (hA.get (i := o + i) (by omega)) rfl rfl (hb hbytes d12) ?_
        exact Steps.refl _)
      have c5 : Steps p.tables e below (s₁.setTop (entryFrame m #[.ref b, .int (Int32.ofNat o), .ref d, .int (Int32.ofNat q), .int (Int32.ofNat len)] 7)) (Tl.setTop (mkF m 15 #[.val (.ref b), .val (.int (Int32.ofNat (o + i))), .val (.ref d), .val (.int (Int32.ofNat (q + i))), .val (.int (Int32.ofNat len)), .val (.int (Int32.ofNat i)), .val (.int (cv A (o + i)))] [])) := c4.trans (by
        refine XS.istoreS Xl.here hexec rfl (hb hbytes d13) rfl rfl hz ?_
        exact Steps.refl _)
      have c6 : Steps p.tables e below (s₁.setTop (entryFrame m #[.ref b, .int (Int32.ofNat o), .ref d, .int (Int32.ofNat q), .int (Int32.ofNat len)] 7)) (Tl.setTop (mkF m 31 #[.val (.ref b), .val (.int (Int32.ofNat (o + i))), .val (.ref d), .val (.int (Int32.ofNat (q + i))), .val (.int (Int32.ofNat len)), .val (.int (Int32.ofNat i)), .val (.int (cv A (o + i)))] [.int (lo8 (cv A (o + i))), .int (Int32.ofNat (q + i)), .ref d])) := c5.trans (by
        refine XS.iload Xl.here hexec rfl (hb hbytes d15) rfl ?_
        refine sipushV Xl.here hexec rfl 255 (hb hbytes d17) (by decide) ?_
        refine XS.icmpYes Xl.here hexec rfl (pc0 := 20) rfl (hb hbytes d20) rfl (ii_le_t (hp i (by omega))) (by decide) rfl ?_
        refine XS.aloadN Xl.here hexec rfl (hb hbytes d26) rfl rfl ?_
        refine XS.iloadN Xl.here hexec rfl (hb hbytes d27) rfl ?_
        refine XS.iload Xl.here hexec rfl (hb hbytes d28) rfl ?_
        refine i2b Xl.here hexec rfl (hb hbytes d30) rfl ?_
        exact Steps.refl _)
      obtain ⟨T7, X7, p7, st7⟩ := Xl.aput hexec hBk rfl hlt rfl (fits_lo8 (cv A (o + i))) (g := (mkF m 31 #[.val (.ref b), .val (.int (Int32.ofNat (o + i))), .val (.ref d), .val (.int (Int32.ofNat (q + i))), .val (.int (Int32.ofNat len)), .val (.int (Int32.ofNat i)), .val (.int (cv A (o + i)))] [.int (lo8 (cv A (o + i))), .int (Int32.ofNat (q + i)), .ref d])) rfl (rest := []) rfl (hb hbytes d31)
      have c8 : Steps p.tables e below (s₁.setTop (entryFrame m #[.ref b, .int (Int32.ofNat o), .ref d, .int (Int32.ofNat q), .int (Int32.ofNat len)] 7)) (T7.setTop (mkF m 32 #[.val (.ref b), .val (.int (Int32.ofNat (o + i))), .val (.ref d), .val (.int (Int32.ofNat (q + i))), .val (.int (Int32.ofNat len)), .val (.int (Int32.ofNat i)), .val (.int (cv A (o + i)))] [])) := c6.trans (st7 _ (Steps.refl _))
      have c9 : Steps p.tables e below (s₁.setTop (entryFrame m #[.ref b, .int (Int32.ofNat o), .ref d, .int (Int32.ofNat q), .int (Int32.ofNat len)] 7)) (T7.setTop (mkF m 3 #[.val (.ref b), .val (.int (Int32.ofNat (o + i) + 1)), .val (.ref d), .val (.int (Int32.ofNat (q + i) + 1)), .val (.int (Int32.ofNat len)), .val (.int (Int32.ofNat i + 1)), .val (.int (cv A (o + i)))] [])) := c8.trans (by
        refine iincV X7.here hexec rfl 1 (hb hbytes d32) (by decide) rfl rfl ?_
        refine iincV X7.here hexec rfl 1 (hb hbytes d35) (by decide) rfl rfl ?_
        refine iincV X7.here hexec rfl 1 (hb hbytes d38) (by decide) rfl rfl ?_
        refine XS.goto X7.here hexec rfl (pc0 := 41) rfl (hb hbytes d41) (by decide) rfl ?_
        exact Steps.refl _)
      have c10 : Steps p.tables e below (s₁.setTop (entryFrame m #[.ref b, .int (Int32.ofNat o), .ref d, .int (Int32.ofNat q), .int (Int32.ofNat len)] 7)) (T7.setTop (mkF m 3 #[.val (.ref b), .val (.int (Int32.ofNat (o + (i + 1)))), .val (.ref d), .val (.int (Int32.ofNat (q + (i + 1)))), .val (.int (Int32.ofNat len)), .val (.int (Int32.ofNat (i + 1))), .val (.int (cv A (o + i)))] [])) := by
        have := c9
        rw [succ32, succ32, succ32] at this
        exact this
      exact ih (i + 1) (by omega) _ (Or.inr ⟨_, rfl, rfl⟩) T7 _ (by rw [copyLocs_step, ← List.append_assoc]; exact X7) (pl.trans p7) (fl.step (by omega) hlt (by simp)) c10
  obtain ⟨T9, B9, z9, X9, p9, f9, g9⟩ := loop len 0 (by omega) .unset (Or.inl rfl) s₁ B (by simpa [copyLocs] using X0) ⟨hB0.1, fun _ _ => rfl, rfl⟩ (Laid.zero _ _ _) c2
  have c11 : Steps p.tables e below (s₁.setTop (entryFrame m #[.ref b, .int (Int32.ofNat o), .ref d, .int (Int32.ofNat q), .int (Int32.ofNat len)] 7)) (T9.setTop (mkF m 46 #[.val (.ref b), .val (.int (Int32.ofNat (o + len))), .val (.ref d), .val (.int (Int32.ofNat (q + len))), .val (.int (Int32.ofNat len)), .val (.int (Int32.ofNat len)), z9] [.int (Int32.ofNat len)])) := g9.trans (by
    refine XS.iload X9.here hexec rfl (hb hbytes d3) rfl ?_
    refine XS.iload X9.here hexec rfl (hb hbytes d5) rfl ?_
    refine XS.icmpYes X9.here hexec rfl (pc0 := 7) rfl (hb hbytes d7) rfl (ii_ge_t (nlt32 (by omega) (Nat.le_refl _))) (by decide) rfl ?_
    refine XS.iload X9.here hexec rfl (hb hbytes d44) rfl ?_
    exact Steps.refl _)
  exact ⟨T9, some (.int (Int32.ofNat len)), _, _, _, X9, by simp, rfl, rfl, (fun h => by cases h), ⟨rfl, B9, p9.from hh0, f9⟩, fun fs hl => c11.trans (X9.ireturnOut hexec hret rfl (Or.inl rfl) (hb hbytes d46) hl)⟩
end Cmp5
namespace Cmp3
def yN : MethodName := ⟨"java/lang/StringUTF16", "compress", "([CII)[B"⟩
abbrev yB : ByteArray := jdk_52_method_16_code
theorem d0 : decode yB 0 = .ok (.iload_n 2, 1) := by decide +kernel
theorem d1 : decode yB 1 = .ok (.newarray .byte, 2) := by decide +kernel
theorem d3 : decode yB 3 = .ok (.astore_n 3, 1) := by decide +kernel
theorem d4 : decode yB 4 = .ok (.aload_n 0, 1) := by decide +kernel
theorem d5 : decode yB 5 = .ok (.iload_n 1, 1) := by decide +kernel
theorem d6 : decode yB 6 = .ok (.aload_n 3, 1) := by decide +kernel
theorem d7 : decode yB 7 = .ok (.iconst 0, 1) := by decide +kernel
theorem d8 : decode yB 8 = .ok (.iload_n 2, 1) := by decide +kernel
theorem d9 : decode yB 9 = .ok (.invokestatic 115, 3) := by decide +kernel
theorem d12 : decode yB 12 = .ok (.istore 4, 2) := by decide +kernel
theorem d14 : decode yB 14 = .ok (.iload 4, 2) := by decide +kernel
theorem d16 : decode yB 16 = .ok (.iload_n 2, 1) := by decide +kernel
theorem d17 : decode yB 17 = .ok (.if_icmp (.eq) 40, 3) := by decide +kernel
theorem d57 : decode yB 57 = .ok (.aload_n 3, 1) := by decide +kernel
theorem d58 : decode yB 58 = .ok (.areturn, 1) := by decide +kernel
def site : List Cond := [.arrayClass .byte, Cmp5.tab] ++ staticW U16 115 Cmp5.yN
def tab : Cond := tabOf yN yB 6 (some (.array .byte)) site
def P (b : Addr) (A : Cell) (o len : Nat) (args : Array Value) (s : State) : Prop := args = #[.ref b, .int (Int32.ofNat o), .int (Int32.ofNat len)] ∧ Ch b A s ∧ o + len ≤ A.slots.size ∧ len ≤ 536870912 ∧ ∀ i, i < len → ¬ 255 < cv A (o + i)
def E (b : Addr) (A : Cell) (o len : Nat) (r : Option Value) (s u : State) : Prop := NewArr .byte "[B" len (fun j => .int (lo8 (cv A (o + j)))) r s u ∧ u.heap.size = s.heap.size + 1
/-- no char of the range above 255: a new byte[] of their low bytes -/
theorem law (l : Launch) (b : Addr) (A : Cell) (o len : Nat) : Law l yN 3 3 1 18 yB 6 (some (.array .byte)) site (P b A o len) (E b A o len) [] 1 len := by
  refine Law.of_walk (plainFor_of_name (by decide +kernel)) (by decide +kernel) (by decide +kernel) (by decide) (fun _ _ h => by rw [h.1]; rfl) (fun _ U U' hal hh h => ⟨h.1, h.2.1.mv hal hh, h.2.2⟩) (fun r U U' V V' h1 hal h2 h => ⟨NewArr.mv r U U' V V' h1 hal h2 h.1, by rw [h1, h2]; exact h.2⟩) ?_
  intro p e s m args below meth c s₁ X0 hexec hbytes hml hret hlk hnm hown hh0 W hP
  obtain ⟨rfl, hA, l1, l2, hp⟩ := hP
  have a31 := hA.1.2.2.2
  have c1 : Steps p.tables e below (s₁.setTop (entryFrame m #[.ref b, .int (Int32.ofNat o), .int (Int32.ofNat len)] 6)) (s₁.setTop (mkF m 0 #[.val (.ref b), .val (.int (Int32.ofNat o)), .val (.int (Int32.ofNat len)), .unset, .unset, .unset] [])) := entry rfl
  have c2 : Steps p.tables e below (s₁.setTop (entryFrame m #[.ref b, .int (Int32.ofNat o), .int (Int32.ofNat len)] 6)) (s₁.setTop (mkF m 1 #[.val (.ref b), .val (.int (Int32.ofNat o)), .val (.int (Int32.ofNat len)), .unset, .unset, .unset] [.int (Int32.ofNat len)])) := c1.trans (by
    refine XS.iloadN X0.here hexec rfl (hb hbytes d0) rfl ?_
    exact Steps.refl _)
  obtain ⟨T3, B3, X3, ba3, bs3, bv3, bh3, bf3, st3⟩ := X0.anew hexec (atype := .byte) (wk W (.arrayClass .byte)) rfl (by show len * 1 ≤ _; omega) (by omega) (g := (mkF m 1 #[.val (.ref b), .val (.int (Int32.ofNat o)), .val (.int (Int32.ofNat len)), .unset, .unset, .unset] [.int (Int32.ofNat len)])) rfl (hb hbytes d1) (rest := []) rfl (Nat.le_refl _) (by show 0 + len ≤ len; omega)
  rw [hh0] at ba3 st3
  have kp3 : XT.Kept s T3 := (XT.Kept.of_eq hh0).push bh3
  have hA3 := hA.keep X3.warmed.alike (kp3 _ _ hA.1.1)
  have hne : b ≠ s.heap.size := hA.1.ne
  have c4 : Steps p.tables e below (s₁.setTop (entryFrame m #[.ref b, .int (Int32.ofNat o), .int (Int32.ofNat len)] 6)) (T3.setTop (mkF m 3 #[.val (.ref b), .val (.int (Int32.ofNat o)), .val (.int (Int32.ofNat len)), .unset, .unset, .unset] [.ref s.heap.size])) := c2.trans (st3 _ (Steps.refl _))
  have c5 : Steps p.tables e below (s₁.setTop (entryFrame m #[.ref b, .int (Int32.ofNat o), .int (Int32.ofNat len)] 6)) (T3.setTop (mkF m 9 #[.val (.ref b), .val (.int (Int32.ofNat o)), .val (.int (Int32.ofNat len)), .val (.ref s.heap.size), .unset, .unset] [.int (Int32.ofNat len), .int 0, .ref s.heap.size, .int (Int32.ofNat o), .ref b])) := c4.trans (by
    refine XS.astoreN X3.here hexec rfl (hb hbytes d3) rfl rfl rfl ?_
    refine XS.aloadN X3.here hexec rfl (hb hbytes d4) rfl rfl ?_
    refine XS.iloadN X3.here hexec rfl (hb hbytes d5) rfl ?_
    refine XS.aloadN X3.here hexec rfl (hb hbytes d6) rfl rfl ?_
    refine iconstV X3.here hexec rfl 0 (hb hbytes d7) (by decide) ?_
    refine XS.iloadN X3.here hexec rfl (hb hbytes d8) rfl ?_
    exact Steps.refl _)
  obtain ⟨v6, T6, X6, E6, g6⟩ := X3.callS hexec (Cmp5.law l b A s.heap.size B3 o 0 len) hown (wks W (staticW U16 115 Cmp5.yN)) (wk W Cmp5.tab) (W := 0) (Nat.le_of_ble_eq_true rfl) (Nat.le_of_ble_eq_true rfl) (Nat.le_refl _) (by show 0 + len + 0 ≤ len; omega) (g := (mkF m 9 #[.val (.ref b), .val (.int (Int32.ofNat o)), .val (.int (Int32.ofNat len)), .val (.ref s.heap.size), .unset, .unset] [.int (Int32.ofNat len), .int (Int32.ofNat 0), .ref s.heap.size, .int (Int32.ofNat o), .ref b])) rfl (by rw [hml]; rfl) c5 (argsL := [.ref b, .int (Int32.ofNat o), .ref s.heap.size, .int (Int32.ofNat 0), .int (Int32.ofNat len)]) (rest := []) rfl rfl (by show 2 * 0 + 0 ≤ _; decide) (hb hbytes d9) (⟨rfl, hA3, ba3, hne, l1, by rw [bs3]; simp, hp⟩)
  obtain ⟨rfl, B6, p6, f6⟩ := E6
  have c7 : Steps p.tables e below (s₁.setTop (entryFrame m #[.ref b, .int (Int32.ofNat o), .int (Int32.ofNat len)] 6)) (T6.setTop (mkF m 12 #[.val (.ref b), .val (.int (Int32.ofNat o)), .val (.int (Int32.ofNat len)), .val (.ref s.heap.size), .unset, .unset] [.int (Int32.ofNat len)])) := g6
  have c8 : Steps p.tables e below (s₁.setTop (entryFrame m #[.ref b, .int (Int32.ofNat o), .int (Int32.ofNat len)] 6)) (T6.setTop (mkF m 58 #[.val (.ref b), .val (.int (Int32.ofNat o)), .val (.int (Int32.ofNat len)), .val (.ref s.heap.size), .val (.int (Int32.ofNat len)), .unset] [.ref s.heap.size])) := c7.trans (by
    refine XS.istore X6.here hexec rfl (hb hbytes d12) rfl rfl ?_
    refine XS.iload X6.here hexec rfl (hb hbytes d14) rfl ?_
    refine XS.iloadN X6.here hexec rfl (hb hbytes d16) rfl ?_
    refine XS.icmpYes X6.here hexec rfl (pc0 := 17) rfl (hb hbytes d17) rfl (ii_eq_t rfl) (by decide) rfl ?_
    refine XS.aloadN X6.here hexec rfl (hb hbytes d57) rfl rfl ?_
    exact Steps.refl _)
  have X8 := X6.wide (L' := []) (cells' := 1) (slots' := len) (fun x hx hlt => by
    simp only [List.nil_append, copyLocs, List.mem_map, List.mem_range] at hx
    obtain ⟨i, -, rfl⟩ := hx
    exact absurd hlt (Nat.lt_irrefl _)) (Nat.le_refl _) (by omega)
  exact ⟨T6, some (.ref s.heap.size), _, _, _, X8, rfl, rfl, rfl, (fun h => by cases h), ⟨⟨rfl, B6, ba3.like (X3.warmed.alike.symm.trans X6.warmed.alike) p6.1 f6.1 f6.2.1 f6.2.2.1, f6.2.1.trans bv3, by rw [X6.warmed.alike.findClass, f6.1]; exact bf3, by rw [f6.2.2.1, bs3]; simp, fun j hj => by rw [f6.2.2.2 j, if_pos (by omega)]; rfl, kp3.put p6 (Nat.le_refl _)⟩, by rw [p6.2.2, bh3, hh0]; simp⟩, fun fs hl => c8.trans (X8.areturnOut hexec rfl hret rfl (hb hbytes d58) hl)⟩
end Cmp3
namespace CodL
def yN : MethodName := ⟨"java/lang/StringUTF16", "coderFromArrayLen", "([BI)B"⟩
abbrev yB : ByteArray := jdk_52_method_15_code
theorem d0 : decode yB 0 = .ok (.iload_n 1, 1) := by decide +kernel
theorem d1 : decode yB 1 = .ok (.aload_n 0, 1) := by decide +kernel
theorem d2 : decode yB 2 = .ok (.arraylength, 1) := by decide +kernel
theorem d3 : decode yB 3 = .ok (.isub, 1) := by decide +kernel
theorem d4 : decode yB 4 = .ok (.bipush 31, 2) := by decide +kernel
theorem d6 : decode yB 6 = .ok (.iushr, 1) := by decide +kernel
theorem d7 : decode yB 7 = .ok (.i2b, 1) := by decide +kernel
theorem d8 : decode yB 8 = .ok (.ireturn, 1) := by decide +kernel
def site : List Cond := []
def tab : Cond := tabOf yN yB 2 (some .byte) site
def P (d : Addr) (B : Cell) (args : Array Value) (s : State) : Prop := args = #[.ref d, .int (Int32.ofNat B.slots.size)] ∧ Arr .byte d B s
def E (r : Option Value) (s u : State) : Prop := XT.PureE (some (.int 0)) r s u
/-- an array as long as the number of chars: LATIN1 -/
theorem law (l : Launch) (d : Addr) (B : Cell) : Law l yN 2 2 0 0 yB 2 (some .byte) site (P d B) E [] 0 0 := by
  refine Law.of_walk (plainFor_of_name (by decide +kernel)) (by decide +kernel) (by decide +kernel) (by decide) (fun _ _ h => by rw [h.1]; rfl) (fun _ U U' hal hh h => ⟨h.1, h.2.mv hal hh⟩) (fun r U U' V V' h1 hal h2 h => XT.PureE.mv r U U' V V' h1 hal h2 h) ?_
  intro p e s m args below meth c s₁ X0 hexec hbytes hml hret hlk hnm hown hh0 W hP
  obtain ⟨rfl, hB⟩ := hP
  have hB0 := hB.mv X0.warmed.alike hh0
  have c1 : Steps p.tables e below (s₁.setTop (entryFrame m #[.ref d, .int (Int32.ofNat B.slots.size)] 2)) (s₁.setTop (mkF m 0 #[.val (.ref d), .val (.int (Int32.ofNat B.slots.size))] [])) := entry rfl
  have c2 : Steps p.tables e below (s₁.setTop (entryFrame m #[.ref d, .int (Int32.ofNat B.slots.size)] 2)) (s₁.setTop (mkF m 2 #[.val (.ref d), .val (.int (Int32.ofNat B.slots.size))] [.ref d, .int (Int32.ofNat B.slots.size)])) := c1.trans (by
    refine XS.iloadN X0.here hexec rfl (hb hbytes d0) rfl ?_
    refine XS.aloadN X0.here hexec rfl (hb hbytes d1) rfl rfl ?_
    exact Steps.refl _)
  have c3 : Steps p.tables e below (s₁.setTop (entryFrame m #[.ref d, .int (Int32.ofNat B.slots.size)] 2)) (s₁.setTop (mkF m 8 #[.val (.ref d), .val (.int (Int32.ofNat B.slots.size))] [.int (lo8 (ushr (Int32.ofNat B.slots.size - Int32.ofNat B.slots.size) 31))])) := c2.trans (by
    refine X0.alen hexec hB0 rfl rfl (hb hbytes d2) ?_
    refine XS.isub X0.here hexec rfl (hb hbytes d3) rfl ?_
    refine bipushV X0.here hexec rfl 31 (hb hbytes d4) (by decide) ?_
    refine iushr X0.here hexec rfl (hb hbytes d6) rfl ?_
    refine i2b X0.here hexec rfl (hb hbytes d7) rfl ?_
    exact Steps.refl _)
  have e0 : lo8 (ushr (Int32.ofNat B.slots.size - Int32.ofNat B.slots.size) 31) = 0 := by rw [Int32.sub_self]; decide
  rw [e0] at c3
  exact ⟨s₁, some (.int 0), _, _, _, X0, rfl, rfl, rfl, (fun h => by cases h), ⟨rfl, hh0⟩, fun fs hl => c3.trans (X0.ireturnOut hexec hret rfl (Or.inr (Or.inr (Or.inl rfl))) (hb hbytes d8) hl)⟩
end CodL
/-- the String at a is Latin-1 over a new byte[] (the heap's one new cell): the low bytes of the len chars of A from o on; every cell but a is kept -/
def Got (a : Addr) (D : Cell) (fV fC : Field) (A : Cell) (o len : Nat) (r : Option Value) (s u : State) : Prop := r = none ∧ ∃ D' V : Cell, Blank "java/lang/String" a D' u ∧ Same D D' [fV.slot, fC.slot] ∧ D'.slots[fV.slot]? = some (.ref s.heap.size) ∧ D'.slots[fC.slot]? = some (.int 0) ∧ Arr .byte s.heap.size V u ∧ V.vm = .none ∧ u.vm.findClass "[B" = some V.cls ∧ V.slots.size = len ∧ (∀ j, j < len → V.slots[j]? = some (.int (lo8 (cv A (o + j))))) ∧ (∀ (y : Addr) (c : Cell), y ≠ a → s.heap[y]? = some c → u.heap[y]? = some c) ∧ u.heap.size = s.heap.size + 1
theorem Got.mv {a : Addr} {D A : Cell} {fV fC : Field} {o len : Nat} : ∀ r (U U' V V' : State), U'.heap = U.heap → V.vm.Alike V'.vm → V'.heap = V.heap → Got a D fV fC A o len r U V → Got a D fV fC A o len r U' V' :=
  fun r U U' V V' h1 hal h2 ⟨e0, D', X, a1, a2, a3, a4, a5, a6, a7, a8, a9, a10, a11⟩ => ⟨e0, D', X, a1.mv hal h2, a2, by rw [h1]; exact a3, a4, by rw [h1]; exact a5.mv hal h2, a6, by rw [hal.findClass]; exact a7, a8, a9, by rw [h1, h2]; exact a10, by rw [h1, h2]; exact a11⟩
namespace New4
def yN : MethodName := ⟨"java/lang/String", "<init>", "([CIILjava/lang/Void;)V"⟩
abbrev yB : ByteArray := jdk_42_method_149_code
theorem d0 : decode yB 0 = .ok (.aload_n 0, 1) := by decide +kernel
theorem d1 : decode yB 1 = .ok (.invokespecial 1, 3) := by decide +kernel
theorem d4 : decode yB 4 = .ok (.iload_n 3, 1) := by decide +kernel
theorem d5 : decode yB 5 = .ok (.ifCond (.ne) 22, 3) := by decide +kernel
theorem d27 : decode yB 27 = .ok (.getstatic 38, 3) := by decide +kernel
theorem d30 : decode yB 30 = .ok (.ifCond (.eq) 28, 3) := by decide +kernel
theorem d33 : decode yB 33 = .ok (.aload_n 1, 1) := by decide +kernel
theorem d34 : decode yB 34 = .ok (.iload_n 2, 1) := by decide +kernel
theorem d35 : decode yB 35 = .ok (.iload_n 3, 1) := by decide +kernel
theorem d36 : decode yB 36 = .ok (.invokestatic 177, 3) := by decide +kernel
theorem d39 : decode yB 39 = .ok (.astore 5, 2) := by decide +kernel
theorem d41 : decode yB 41 = .ok (.aload_n 0, 1) := by decide +kernel
theorem d42 : decode yB 42 = .ok (.aload 5, 2) := by decide +kernel
theorem d44 : decode yB 44 = .ok (.iload_n 3, 1) := by decide +kernel
theorem d45 : decode yB 45 = .ok (.invokestatic 47, 3) := by decide +kernel
theorem d48 : decode yB 48 = .ok (.putfield 15, 3) := by decide +kernel
theorem d51 : decode yB 51 = .ok (.aload_n 0, 1) := by decide +kernel
theorem d52 : decode yB 52 = .ok (.aload 5, 2) := by decide +kernel
theorem d54 : decode yB 54 = .ok (.putfield 9, 3) := by decide +kernel
theorem d57 : decode yB 57 = .ok (.return_, 1) := by decide +kernel
def site : List Cond := [.fieldLink "java/lang/String" 38 "java/lang/String" "COMPACT_STRINGS" "Z", Cmp3.tab, CodL.tab, .laysFinal "java/lang/String" "java/lang/String" "value" "[B", .fieldLink "java/lang/String" 9 "java/lang/String" "value" "[B", .laysFinal "java/lang/String" "java/lang/String" "coder" "B", .fieldLink "java/lang/String" 15 "java/lang/String" "coder" "B"] ++ objW "java/lang/String" 1 ++ staticW "java/lang/String" 177 Cmp3.yN ++ staticW "java/lang/String" 47 CodL.yN
def tab : Cond := tabOf yN yB 6 none site
def P (a : Addr) (D : Cell) (fV fC : Field) (b : Addr) (A : Cell) (z : Int32) (o len : Nat) (args : Array Value) (s : State) : Prop := args = #[.ref a, .ref b, .int (Int32.ofNat o), .int (Int32.ofNat len), .null] ∧ Blank "java/lang/String" a D s ∧ Found "java/lang/String" "value" "[B" fV s ∧ Found "java/lang/String" "coder" "B" fC s ∧ Ch b A s ∧ StaticIs s "java/lang/String" "COMPACT_STRINGS" "Z" (.int z) ∧ ¬ z = 0 ∧ 0 < len ∧ o + len ≤ A.slots.size ∧ len ≤ 536870912 ∧ ∀ i, i < len → ¬ 255 < cv A (o + i)
def E (a : Addr) (D : Cell) (fV fC : Field) (A : Cell) (o len : Nat) (r : Option Value) (s u : State) : Prop := Got a D fV fC A o len r s u
/-- len > 0, no char of the range above 255: a Latin-1 String of their low bytes -/
theorem law (l : Launch) (a : Addr) (D : Cell) (fV fC : Field) (b : Addr) (A : Cell) (z : Int32) (o len : Nat) : Law l yN 5 4 2 35 yB 6 none site (P a D fV fC b A z o len) (E a D fV fC A o len) [⟨a, fC.slot⟩, ⟨a, fV.slot⟩] 1 len := by
  refine Law.of_walk (plainFor_of_name (by decide +kernel)) (by decide +kernel) (by decide +kernel) (by decide) (fun _ _ h => by rw [h.1]; rfl) (fun _ U U' hal hh h => ⟨h.1, h.2.1.mv hal hh, h.2.2.1.al hal, h.2.2.2.1.al hal, h.2.2.2.2.1.mv hal hh, h.2.2.2.2.2.1.there hal hh, h.2.2.2.2.2.2⟩) (fun r U U' V V' h1 hal h2 h => Got.mv r U U' V V' h1 hal h2 h) ?_
  intro p e s m args below meth c s₁ X0 hexec hbytes hml hret hlk hnm hown hh0 W hP
  obtain ⟨rfl, hB, f1, f2, hA, s1, hz, l0, l1, l2, hp⟩ := hP
  have a31 := hA.1.2.2.2
  have c1 : Steps p.tables e below (s₁.setTop (entryFrame m #[.ref a, .ref b, .int (Int32.ofNat o), .int (Int32.ofNat len), .null] 6)) (s₁.setTop (mkF m 0 #[.val (.ref a), .val (.ref b), .val (.int (Int32.ofNat o)), .val (.int (Int32.ofNat len)), .val .null, .unset] [])) := entry rfl
  have c2 : Steps p.tables e below (s₁.setTop (entryFrame m #[.ref a, .ref b, .int (Int32.ofNat o), .int (Int32.ofNat len), .null] 6)) (s₁.setTop (mkF m 1 #[.val (.ref a), .val (.ref b), .val (.int (Int32.ofNat o)), .val (.int (Int32.ofNat len)), .val .null, .unset] [.ref a])) := c1.trans (by
    refine XS.aloadN X0.here hexec rfl (hb hbytes d0) rfl rfl ?_
    exact Steps.refl _)
  obtain ⟨T3, X3, q3, st3⟩ := X0.oinit hexec hown (wks W (objW "java/lang/String" 1)) (g := (mkF m 1 #[.val (.ref a), .val (.ref b), .val (.int (Int32.ofNat o)), .val (.int (Int32.ofNat len)), .val .null, .unset] [.ref a])) rfl (by rw [hml]; rfl) (rest := []) rfl (hb hbytes d1) (W := 0) (by show 2 * 0 + 0 ≤ _; decide) (Nat.le_of_ble_eq_true rfl) (Nat.le_of_ble_eq_true rfl)
  have hh3 := q3.trans hh0
  have c4 : Steps p.tables e below (s₁.setTop (entryFrame m #[.ref a, .ref b, .int (Int32.ofNat o), .int (Int32.ofNat len), .null] 6)) (T3.setTop (mkF m 27 #[.val (.ref a), .val (.ref b), .val (.int (Int32.ofNat o)), .val (.int (Int32.ofNat len)), .val .null, .unset] [])) := (c2.trans (st3 _ (Steps.refl _))).trans (by
    refine XS.iloadN X3.here hexec rfl (hb hbytes d4) rfl ?_
    refine XS.ifYes X3.here hexec rfl (pc0 := 5) rfl (hb hbytes d5) rfl (i0_ne_t (nz32 (by omega) l0)) (by decide) rfl ?_
    exact Steps.refl _)
  obtain ⟨T5, X5, q5, st5⟩ := X3.sget hexec hown (wk W (.fieldLink "java/lang/String" 38 "java/lang/String" "COMPACT_STRINGS" "Z")) s1 (fun _ _ h => by rw [hh3]; exact h) (g := (mkF m 27 #[.val (.ref a), .val (.ref b), .val (.int (Int32.ofNat o)), .val (.int (Int32.ofNat len)), .val .null, .unset] [])) rfl (hb hbytes d27)
  have hh5 := q5.trans hh3
  have c6 : Steps p.tables e below (s₁.setTop (entryFrame m #[.ref a, .ref b, .int (Int32.ofNat o), .int (Int32.ofNat len), .null] 6)) (T5.setTop (mkF m 30 #[.val (.ref a), .val (.ref b), .val (.int (Int32.ofNat o)), .val (.int (Int32.ofNat len)), .val .null, .unset] [.int z])) := c4.trans (st5 _ (Steps.refl _))
  have c7 : Steps p.tables e below (s₁.setTop (entryFrame m #[.ref a, .ref b, .int (Int32.ofNat o), .int (Int32.ofNat len), .null] 6)) (T5.setTop (mkF m 36 #[.val (.ref a), .val (.ref b), .val (.int (Int32.ofNat o)), .val (.int (Int32.ofNat len)), .val .null, .unset] [.int (Int32.ofNat len), .int (Int32.ofNat o), .ref b])) := c6.trans (by
    refine XS.ifNo X5.here hexec rfl (hb hbytes d30) rfl (i0_eq_f hz) ?_
    refine XS.aloadN X5.here hexec rfl (hb hbytes d33) rfl rfl ?_
    refine XS.iloadN X5.here hexec rfl (hb hbytes d34) rfl ?_
    refine XS.iloadN X5.here hexec rfl (hb hbytes d35) rfl ?_
    exact Steps.refl _)
  obtain ⟨v8, T8, X8, E8, g8⟩ := X5.callS hexec (Cmp3.law l b A o len) hown (wks W (staticW "java/lang/String" 177 Cmp3.yN)) (wk W Cmp3.tab) (W := 0) (Nat.le_of_ble_eq_true rfl) (Nat.le_of_ble_eq_true rfl) (Nat.le_refl _) (by show 0 + len ≤ len; omega) (g := (mkF m 36 #[.val (.ref a), .val (.ref b), .val (.int (Int32.ofNat o)), .val (.int (Int32.ofNat len)), .val .null, .unset] [.int (Int32.ofNat len), .int (Int32.ofNat o), .ref b])) rfl (by rw [hml]; rfl) c7 (argsL := [.ref b, .int (Int32.ofNat o), .int (Int32.ofNat len)]) (rest := []) rfl rfl (by show 2 * 0 + 0 ≤ _; decide) (hb hbytes d36) (⟨rfl, hA.mv X5.warmed.alike hh5, l1, l2, hp⟩)
  obtain ⟨e8, z8⟩ := E8
  obtain ⟨rfl, N, n1, n2, n3, n4, n5, n6⟩ := NewArr.mv _ T5 s _ _ hh5.symm (Vm.Alike.refl _) rfl e8
  rw [hh5] at z8
  have hB1 := hB.keep X8.warmed.alike (n6 _ _ hB.1)
  have hne : s.heap.size ≠ a := (Nat.ne_of_lt (Array.getElem?_eq_some_iff.mp hB.1).1).symm
  have c9 : Steps p.tables e below (s₁.setTop (entryFrame m #[.ref a, .ref b, .int (Int32.ofNat o), .int (Int32.ofNat len), .null] 6)) (T8.setTop (mkF m 39 #[.val (.ref a), .val (.ref b), .val (.int (Int32.ofNat o)), .val (.int (Int32.ofNat len)), .val .null, .unset] [.ref s.heap.size])) := g8
  have c10 : Steps p.tables e below (s₁.setTop (entryFrame m #[.ref a, .ref b, .int (Int32.ofNat o), .int (Int32.ofNat len), .null] 6)) (T8.setTop (mkF m 45 #[.val (.ref a), .val (.ref b), .val (.int (Int32.ofNat o)), .val (.int (Int32.ofNat len)), .val .null, .val (.ref s.heap.size)] [.int (Int32.ofNat N.slots.size), .ref s.heap.size, .ref a])) := by
    have hc : Steps p.tables e below (s₁.setTop (entryFrame m #[.ref a, .ref b, .int (Int32.ofNat o), .int (Int32.ofNat len), .null] 6)) (T8.setTop (mkF m 45 #[.val (.ref a), .val (.ref b), .val (.int (Int32.ofNat o)), .val (.int (Int32.ofNat len)), .val .null, .val (.ref s.heap.size)] [.int (Int32.ofNat len), .ref s.heap.size, .ref a])) := c9.trans (by
      refine XS.astore X8.here hexec rfl (hb hbytes d39) rfl rfl rfl ?_
      refine XS.aloadN X8.here hexec rfl (hb hbytes d41) rfl rfl ?_
      refine XS.aload X8.here hexec rfl (hb hbytes d42) rfl rfl ?_
      refine XS.iloadN X8.here hexec rfl (hb hbytes d44) rfl ?_
      exact Steps.refl _)
    rw [n4]; exact hc
  obtain ⟨v11, T11, X11, E11, g11⟩ := X8.callS hexec (CodL.law l s.heap.size N) hown (wks W (staticW "java/lang/String" 47 CodL.yN)) (wk W CodL.tab) (W := 1) (Nat.le_of_ble_eq_true rfl) (Nat.le_of_ble_eq_true rfl) (Nat.le_refl _) (by show 0 + len + 0 ≤ len; omega) (g := (mkF m 45 #[.val (.ref a), .val (.ref b), .val (.int (Int32.ofNat o)), .val (.int (Int32.ofNat len)), .val .null, .val (.ref s.heap.size)] [.int (Int32.ofNat N.slots.size), .ref s.heap.size, .ref a])) rfl (by rw [hml]; rfl) c10 (argsL := [.ref s.heap.size, .int (Int32.ofNat N.slots.size)]) (rest := [.ref a]) rfl rfl (by show 2 * 0 + (1 + 0) ≤ _; decide) (hb hbytes d45) (⟨rfl, n1⟩)
  obtain ⟨rfl, q11⟩ := E11
  have hB11 := hB1.mv (X8.warmed.alike.symm.trans X11.warmed.alike) q11
  have c12 : Steps p.tables e below (s₁.setTop (entryFrame m #[.ref a, .ref b, .int (Int32.ofNat o), .int (Int32.ofNat len), .null] 6)) (T11.setTop (mkF m 48 #[.val (.ref a), .val (.ref b), .val (.int (Int32.ofNat o)), .val (.int (Int32.ofNat len)), .val .null, .val (.ref s.heap.size)] [.int 0, .ref a])) := g11
  obtain ⟨T13, X13, p13, bl13, sl13, st13⟩ := X11.finit hexec hown (wk W (.fieldLink "java/lang/String" 15 "java/lang/String" "coder" "B")) (Or.inr ⟨_, (wk W (.laysFinal "java/lang/String" "java/lang/String" "coder" "B"))⟩) (Or.inl ⟨rfl, hnm⟩) f2 (Or.inl rfl) hB11 (t := .byte) (by decide +kernel) rfl (g := (mkF m 48 #[.val (.ref a), .val (.ref b), .val (.int (Int32.ofNat o)), .val (.int (Int32.ofNat len)), .val .null, .val (.ref s.heap.size)] [.int 0, .ref a])) rfl (rest := []) rfl (hb hbytes d48)
  have c14 : Steps p.tables e below (s₁.setTop (entryFrame m #[.ref a, .ref b, .int (Int32.ofNat o), .int (Int32.ofNat len), .null] 6)) (T13.setTop (mkF m 54 #[.val (.ref a), .val (.ref b), .val (.int (Int32.ofNat o)), .val (.int (Int32.ofNat len)), .val .null, .val (.ref s.heap.size)] [.ref s.heap.size, .ref a])) := (c12.trans (st13 _ (Steps.refl _))).trans (by
    refine XS.aloadN X13.here hexec rfl (hb hbytes d51) rfl rfl ?_
    refine XS.aload X13.here hexec rfl (hb hbytes d52) rfl rfl ?_
    exact Steps.refl _)
  obtain ⟨T15, X15, p15, bl15, sl15, st15⟩ := X13.finit hexec hown (wk W (.fieldLink "java/lang/String" 9 "java/lang/String" "value" "[B")) (Or.inr ⟨_, (wk W (.laysFinal "java/lang/String" "java/lang/String" "value" "[B"))⟩) (Or.inl ⟨rfl, hnm⟩) f1 (Or.inl rfl) bl13 (t := (.array .byte)) (by decide +kernel) rfl (g := (mkF m 54 #[.val (.ref a), .val (.ref b), .val (.int (Int32.ofNat o)), .val (.int (Int32.ofNat len)), .val .null, .val (.ref s.heap.size)] [.ref s.heap.size, .ref a])) rfl (rest := []) rfl (hb hbytes d54)
  have c16 : Steps p.tables e below (s₁.setTop (entryFrame m #[.ref a, .ref b, .int (Int32.ofNat o), .int (Int32.ofNat len), .null] 6)) (T15.setTop (mkF m 57 #[.val (.ref a), .val (.ref b), .val (.int (Int32.ofNat o)), .val (.int (Int32.ofNat len)), .val .null, .val (.ref s.heap.size)] [])) := c14.trans (st15 _ (Steps.refl _))
  have ap := apart (Or.inr ⟨_, (wk W (.laysFinal "java/lang/String" "java/lang/String" "value" "[B"))⟩) (Or.inr ⟨_, (wk W (.laysFinal "java/lang/String" "java/lang/String" "coder" "B"))⟩) f1 f2 (t₁ := .array .byte) (t₂ := .byte) (by decide +kernel) (by decide +kernel) (by decide)
  have al := X8.warmed.alike.symm.trans X15.warmed.alike
  have n7 : T11.heap[s.heap.size]? = some N := by rw [q11]; exact n1.1
  exact ⟨T15, none, _, _, _, X15, by simp, rfl, by omega, (fun _ => rfl), ⟨rfl, _, N, bl15, ((Same.refl D _).set _ (by simp)).set _ (by simp), sl15, (Cell.slots_setSlot_ne _ ap).trans sl13, n1.keep al (p15.other hne (p13.other hne n7)), n2, by rw [al.findClass]; exact n3, n4, n5, fun y c h1 h2 => p15.other h1 (p13.other h1 (by rw [q11]; exact n6 y c h2)), by rw [p15.2.2, p13.2.2, q11]; exact z8⟩, fun fs hl => c16.trans (X15.returnOut hexec hret (hb hbytes d57) hl)⟩
end New4
namespace New1
def yN : MethodName := ⟨"java/lang/String", "<init>", "([C)V"⟩
abbrev yB : ByteArray := jdk_42_method_3_code
theorem d0 : decode yB 0 = .ok (.aload_n 0, 1) := by decide +kernel
theorem d1 : decode yB 1 = .ok (.aload_n 1, 1) := by decide +kernel
theorem d2 : decode yB 2 = .ok (.iconst 0, 1) := by decide +kernel
theorem d3 : decode yB 3 = .ok (.aload_n 1, 1) := by decide +kernel
theorem d4 : decode yB 4 = .ok (.arraylength, 1) := by decide +kernel
theorem d5 : decode yB 5 = .ok (.aconst_null, 1) := by decide +kernel
theorem d6 : decode yB 6 = .ok (.invokespecial 27, 3) := by decide +kernel
theorem d9 : decode yB 9 = .ok (.return_, 1) := by decide +kernel
def site : List Cond := [New4.tab] ++ initW "java/lang/String" 27 New4.yN
def tab : Cond := tabOf yN yB 2 none site
def P (a : Addr) (D : Cell) (fV fC : Field) (b : Addr) (A : Cell) (z : Int32) (args : Array Value) (s : State) : Prop := args = #[.ref a, .ref b] ∧ Blank "java/lang/String" a D s ∧ Found "java/lang/String" "value" "[B" fV s ∧ Found "java/lang/String" "coder" "B" fC s ∧ Ch b A s ∧ StaticIs s "java/lang/String" "COMPACT_STRINGS" "Z" (.int z) ∧ ¬ z = 0 ∧ 0 < A.slots.size ∧ A.slots.size ≤ 536870912 ∧ ∀ i, i < A.slots.size → ¬ 255 < cv A i
def E (a : Addr) (D : Cell) (fV fC : Field) (A : Cell) (r : Option Value) (s u : State) : Prop := Got a D fV fC A 0 A.slots.size r s u
/-- new String(chars), not empty, no char above 255: a Latin-1 String of their low bytes -/
theorem law (l : Launch) (a : Addr) (D : Cell) (fV fC : Field) (b : Addr) (A : Cell) (z : Int32) : Law l yN 2 1 3 52 yB 2 none site (P a D fV fC b A z) (E a D fV fC A) [⟨a, fC.slot⟩, ⟨a, fV.slot⟩] 1 A.slots.size := by
  refine Law.of_walk (plainFor_of_name (by decide +kernel)) (by decide +kernel) (by decide +kernel) (by decide) (fun _ _ h => by rw [h.1]; rfl) (fun _ U U' hal hh h => ⟨h.1, h.2.1.mv hal hh, h.2.2.1.al hal, h.2.2.2.1.al hal, h.2.2.2.2.1.mv hal hh, h.2.2.2.2.2.1.there hal hh, h.2.2.2.2.2.2⟩) (fun r U U' V V' h1 hal h2 h => Got.mv r U U' V V' h1 hal h2 h) ?_
  intro p e s m args below meth c s₁ X0 hexec hbytes hml hret hlk hnm hown hh0 W hP
  obtain ⟨rfl, hB, f1, f2, hA, s1, hz, l0, l2, hp⟩ := hP
  have c1 : Steps p.tables e below (s₁.setTop (entryFrame m #[.ref a, .ref b] 2)) (s₁.setTop (mkF m 0 #[.val (.ref a), .val (.ref b)] [])) := entry rfl
  have c2 : Steps p.tables e below (s₁.setTop (entryFrame m #[.ref a, .ref b] 2)) (s₁.setTop (mkF m 6 #[.val (.ref a), .val (.ref b)] [.null, .int (Int32.ofNat A.slots.size), .int 0, .ref b, .ref a])) := c1.trans (by
    refine XS.aloadN X0.here hexec rfl (hb hbytes d0) rfl rfl ?_
    refine XS.aloadN X0.here hexec rfl (hb hbytes d1) rfl rfl ?_
    refine iconstV X0.here hexec rfl 0 (hb hbytes d2) (by decide) ?_
    refine XS.aloadN X0.here hexec rfl (hb hbytes d3) rfl rfl ?_
    refine X0.alen hexec (hA.1.mv X0.warmed.alike hh0) rfl rfl (hb hbytes d4) ?_
    refine XS.aconstNull X0.here hexec rfl (hb hbytes d5) ?_
    exact Steps.refl _)
  obtain ⟨v3, T3, X3, E3, g3⟩ := X0.callN hexec (New4.law l a D fV fC b A z 0 A.slots.size) rfl hown (wks W (initW "java/lang/String" 27 New4.yN)) (W New4.tab (by simp only [site, List.mem_cons, List.mem_append, true_or, or_true])) (W := 0) (Nat.le_of_ble_eq_true rfl) (Nat.le_of_ble_eq_true rfl) (Nat.le_refl _) (by show 0 + A.slots.size ≤ A.slots.size; omega) (g := (mkF m 6 #[.val (.ref a), .val (.ref b)] [.null, .int (Int32.ofNat A.slots.size), .int (Int32.ofNat 0), .ref b, .ref a])) rfl (by rw [hml]; rfl) c2 (argsL := [.ref b, .int (Int32.ofNat 0), .int (Int32.ofNat A.slots.size), .null]) (rest := []) rfl rfl (by show 2 * 0 + 0 ≤ _; decide) (hb hbytes d6) (⟨rfl, hB.mv X0.warmed.alike hh0, f1.al X0.warmed.alike, f2.al X0.warmed.alike, hA.mv X0.warmed.alike hh0, s1.there X0.warmed.alike hh0, hz, l0, by omega, l2, fun i hi => by rw [Nat.zero_add]; exact hp i hi⟩)
  have e0 := Got.mv _ s₁ s _ _ hh0.symm (Vm.Alike.refl _) rfl E3
  obtain rfl := e0.1
  have c4 : Steps p.tables e below (s₁.setTop (entryFrame m #[.ref a, .ref b] 2)) (T3.setTop (mkF m 9 #[.val (.ref a), .val (.ref b)] [])) := g3
  exact ⟨T3, none, _, _, _, X3, by simp, rfl, by omega, (fun _ => rfl), e0, fun fs hl => c4.trans (X3.returnOut hexec hret (hb hbytes d9) hl)⟩
theorem pays {l : Launch} {R : Room} {p : Program} {e : Env} {below : List Frame} {s : State} {sargs : Array Value} {len W : Nat} (a : Addr) (D : Cell) (fV fC : Field) (b : Addr) (A : Cell) (z : Int32) (htab : tab.before sargs s = true) (hfr : 4 ≤ R.frames) (hlo : W + 65 ≤ R.locals) :
    Back l R p e below s sargs yN len W (fun A₁ a₁ => A₁.cells + 1 ≤ R.cells ∧ A₁.slots + A.slots.size ≤ R.slots ∧ P a D fV fC b A z a₁ A₁.U) (fun A₁ _ v₁ B₁ => E a D fV fC A v₁ A₁.U B₁.U ∧ B₁.locs = A₁.locs ++ [⟨a, fC.slot⟩, ⟨a, fV.slot⟩] ∧ B₁.cells = A₁.cells + 1 ∧ B₁.slots = A₁.slots + A.slots.size) :=
  (law l a D fV fC b A z).pays htab hfr (by omega)
end New1
/-- the byte, read back as charAt reads it, is the char -/
theorem lo8_mask {x : Int32} (h0 : ¬ x < 0) (h1 : ¬ 255 < x) : lo8 x &&& 255 = x := by
  have t : ∀ k : Fin 256, lo8 (Int32.ofNat k.val) &&& 255 = Int32.ofNat k.val := by decide +kernel
  rw [Int32.lt_iff_toInt_lt] at h0 h1
  have e0 : (0 : Int32).toInt = 0 := rfl
  have e1 : (255 : Int32).toInt = 255 := rfl
  obtain ⟨k, hk⟩ : ∃ k : Nat, x.toInt = k := ⟨x.toInt.toNat, by omega⟩
  have hx : x = Int32.ofNat k := Int32.toInt_inj.mp (by rw [hk, Int32.toInt_ofNat_small (by omega)])
  rw [hx]
  exact t ⟨k, by omega⟩
end StrChars
namespace StrChars.Road
open Jvm Sem ClassFile Op Lib Jvm.Stand Jvm.Free Jvm.Free.XT
open Jvm.Lib.Cold (StaticIs)
abbrev ST : String := "java/lang/String"
/-- every table word that New1's law asks, flat -/
abbrev words : List Jvm.Cond := [.code New1.yN New1.yB 2 none, .initialized ST, .methodLink ST 27 New4.yN, .instanceMethod New4.yN,
  .code New4.yN New4.yB 6 none, .fieldLink ST 38 ST "COMPACT_STRINGS" "Z", .laysFinal ST ST "value" "[B", .fieldLink ST 9 ST "value" "[B", .laysFinal ST ST "coder" "B", .fieldLink ST 15 ST "coder" "B",
  .methodLink ST 1 Lib.objectInit, .instanceMethod Lib.objectInit, .code Lib.objectInit ⟨#[0xb1]⟩ 1 none, .methodLink ST 177 Cmp3.yN, .static Cmp3.yN, .methodLink ST 47 CodL.yN, .static CodL.yN,
  .code Cmp3.yN Cmp3.yB 6 (some (.array .byte)), .initialized U16, .arrayClass .byte, .methodLink U16 115 Cmp5.yN, .static Cmp5.yN, .code Cmp5.yN Cmp5.yB 7 (some .int), .code CodL.yN CodL.yB 2 (some .byte)]
theorem tab_of {a : Array Value} {s : State} (h : ∀ w ∈ words, w.before a s = true) : New1.tab.before a s = true := by
  have h5 : Cmp5.tab.before a s = true := unparts (wk h (.code Cmp5.yN Cmp5.yB 7 (some .int))) (wks h (.initialized Cmp5.yN.cls :: Cmp5.site))
  have hc : CodL.tab.before a s = true := unparts (wk h (.code CodL.yN CodL.yB 2 (some .byte))) (wks h (.initialized CodL.yN.cls :: CodL.site))
  have q5 : ∀ w ∈ Cmp5.tab :: words, w.before a s = true := fun w hw => (List.mem_cons.mp hw).elim (fun e => e ▸ h5) (h w)
  have h3 : Cmp3.tab.before a s = true := unparts (wk q5 (.code Cmp3.yN Cmp3.yB 6 (some (.array .byte)))) (wks q5 (.initialized Cmp3.yN.cls :: Cmp3.site))
  have q3 : ∀ w ∈ Cmp3.tab :: CodL.tab :: words, w.before a s = true := fun w hw => (List.mem_cons.mp hw).elim (fun e => e ▸ h3) fun hw => (List.mem_cons.mp hw).elim (fun e => e ▸ hc) (h w)
  have h4 : New4.tab.before a s = true := unparts (wk q3 (.code New4.yN New4.yB 6 none)) (wks q3 (.initialized New4.yN.cls :: New4.site))
  have q4 : ∀ w ∈ New4.tab :: words, w.before a s = true := fun w hw => (List.mem_cons.mp hw).elim (fun e => e ▸ h4) (h w)
  exact unparts (wk q4 (.code New1.yN New1.yB 2 none)) (wks q4 (.initialized New1.yN.cls :: New1.site))
/-- the words ride from the start Z to the walk's own state -/
theorem moved {Z s : State} {a0 args : Array Value} (hZ : Z.Warmed39 s.vm) (hw : ∀ d ∈ words, d.before a0 Z = true) : ∀ d ∈ words, d.before args s = true := fun d hd => by
  have q := hw d hd
  have t : ∀ d ∈ words, d = .arrayClass .byte ∨ (d.onTables && d.keepsFace) = true := by decide +kernel
  rcases t d hd with rfl | t
  · exact RoadKit.mvA hZ q
  · exact RoadKit.mv hZ q t
/-- WHAT COMES BACK, over the tables of the start Z: h the heap at the call, h' behind it -/
def Q (Z : State) (x : Addr) (A : Cell) (h : Heap) (v : Option Value) (h' : Heap) (L : List Loc) : Prop := v = none ∧ (∀ y ∈ L, y.base = x) ∧ RoadKit.Keep h h' [x] ∧ h'.size = h.size + 1 ∧ RoadKit.Exa Z h' x ST ∧ RoadKit.Fld Z h' x ST "value" "[B" (.ref h.size) ∧ RoadKit.Fld Z h' x ST "coder" "B" (.int 0) ∧
  (∃ V : Cell, RoadKit.Arr Z h' h.size V .byte ∧ V.vm = .none ∧ Z.vm.findClass "[B" = some V.cls ∧ V.slots.size = A.slots.size ∧ ∀ j, j < A.slots.size → V.slots[j]? = some (.int (lo8 (cv A j)))) ∧
  ∀ (O n d : String) (w : Value), RoadKit.Fld Z h x O n d w → RoadKit.slotOf Z O n d ≠ RoadKit.slotOf Z ST "value" "[B" → RoadKit.slotOf Z O n d ≠ RoadKit.slotOf Z ST "coder" "B" → RoadKit.Fld Z h' x O n d w
/-- **new String(chars) AT A CALL, IN THE ROAD'S FORM**: for specialBack behind newO: x the fresh String, b the char[] with the cell A -/
theorem back {p : Program} {l : Launch} {e : Env} {R : Room} {s : State} {args : Array Value} {below : List Frame} {len W : Nat} {Z : State} {a0 : Array Value} {h : Heap} (hZ : Z.Warmed39 s.vm) (hw : ∀ d ∈ words, d.before a0 Z = true) {kI : Nat} (wi : (Jvm.Cond.instantiable ST kI).before a0 Z = true)
    {x b : Addr} {A : Cell} {z : Int32} {v0 c0 : Value} (E : RoadKit.Exa Z h x ST) (V : RoadKit.Fld Z h x ST "value" "[B" v0) (C : RoadKit.Fld Z h x ST "coder" "B" c0) (K : RoadKit.Arr Z h b A .char) (hty : Typed .char A) (S : RoadKit.Sta Z h ST "COMPACT_STRINGS" "Z" (.int z)) (hz : ¬ z = 0)
    (l0 : 0 < A.slots.size) (l2 : A.slots.size ≤ 536870912) (hp : ∀ i, i < A.slots.size → ¬ 255 < cv A i) (hfr : 4 ≤ R.frames) (hlo : W + 65 ≤ R.locals) :
    Back l R p e below s args New1.yN len W (fun P a => a = #[.ref x, .ref b] ∧ P.U.heap = h ∧ P.cells + 1 ≤ R.cells ∧ P.slots + A.slots.size ≤ R.slots)
      (fun P _ v B => ∃ L, Q Z x A h v B.U.heap L ∧ B.locs = P.locs ++ L ∧ B.cells = P.cells + 1 ∧ B.slots = P.slots + A.slots.size) := by
  intro m meth c P g ig mk a X hg hsize hdg hW hn hp'
  obtain ⟨rfl, rfl, r1, r2⟩ := hp'
  have al : Z.vm.Alike P.U.vm := hZ.alike.trans X.warmed.alike
  obtain ⟨D, cfV, kV, iV, fV, hD, gV, stV, knV, obV, asV, slV⟩ := id V
  obtain ⟨D', cfC, kC, iC, fC, hD', gC, stC, -, -, asC, slC⟩ := id C
  cases hD.symm.trans hD'
  obtain ⟨D2, kD, e1, e2, e3, e4, e5⟩ := id E
  cases hD.symm.trans e1
  obtain ⟨c2, k2, i1, i2, i3, -⟩ := Cond.instantiable_spec wi
  cases e2.symm.trans i1
  cases e3.symm.trans i2
  obtain ⟨kU, u1, u2⟩ := al.2.2 _ _ e3
  have hB : Blank ST x D P.U := ⟨hD, ⟨knV, fun q hq => by rw [hq] at obV; cases obV⟩, by rw [al.findClass]; exact e2, kU, u1, by rw [u2]; exact i3, by rw [u2]; exact e5 i3⟩
  have F1 : Found ST "value" "[B" fV P.U := ⟨SBG.found_only al ⟨cfV, kV, iV, gV⟩, stV⟩
  have F2 : Found ST "coder" "B" fC P.U := ⟨SBG.found_only al ⟨cfC, kC, iC, gC⟩, stC⟩
  have hA : Ch b A P.U := ⟨⟨K.1, State.isArrayOf_alike al K.2.1, K.2.2, by omega⟩, hty⟩
  have hS : StaticIs P.U ST "COMPACT_STRINGS" "Z" (.int z) := by
    obtain ⟨cfS, iS, kS, fS, st, cS, t1, t2, t3, t4, t5, t6, t7⟩ := S
    exact StaticIs.there (s := { Z with heap := P.U.heap }) ⟨cfS, iS, kS, fS, st, cS, t1, t2, t3, t4, t5, (fun q => by rw [q] at t6; cases t6), t7⟩ al rfl
  obtain ⟨v, B, X', ⟨⟨hv, E', V', q1, q2, q3, q4, q5, q6, q7, q8, q9, q10, q11⟩, hl, hc, hs⟩, st⟩ := New1.pays x D fV fC b A z (tab_of (moved hZ hw)) hfr hlo m meth c P g ig mk _ X hg hsize hdg hW hn ⟨r1, r2, rfl, hB, F1, F2, hA, hS, hz, l0, l2, hp⟩
  have al' : Z.vm.Alike B.U.vm := hZ.alike.trans X'.warmed.alike
  have hsz : E'.slots.size = D.slots.size := by
    obtain ⟨-, -, -, kB, w1, w2, w3⟩ := q1
    obtain ⟨kB', y1, y2⟩ := al'.2.2 _ _ e3
    rw [q2.2.1] at w1
    cases w1.symm.trans y1
    rw [w3, e5 i3, y2]
  refine ⟨v, B, X', ⟨_, ⟨hv, ?_, ⟨by omega, fun y cy hy hn' => q10 y cy (by simpa using hn') hy, fun y cy hy => ?_⟩, q11, ⟨E', _, q1.1, by rw [q2.2.1]; exact e2, by rw [q2.2.1]; exact e3, by rw [q2.1]; exact obV, fun _ => by rw [hsz]; exact e5 i3⟩,
    ⟨E', cfV, kV, iV, fV, q1.1, gV, stV, by rw [q2.1]; exact knV, by rw [q2.1]; exact obV, by rw [q2.2.1]; exact asV, q3⟩, ⟨E', cfC, kC, iC, fC, q1.1, gC, stC, by rw [q2.1]; exact knV, by rw [q2.1]; exact obV, by rw [q2.2.1]; exact asC, q4⟩,
    ⟨V', ⟨q5.1, State.isArrayOf_alike al'.symm q5.2.1, q5.2.2.1⟩, q6, by rw [← al'.findClass]; exact q7, q8, fun j hj => by have := q9 j hj; rwa [Nat.zero_add] at this⟩, fun O n d w F n1 n2 => ?_⟩, hl, hc, hs⟩, st⟩
  · intro y hy
    simp only [List.mem_cons, List.not_mem_nil, or_false] at hy
    rcases hy with rfl | rfl <;> rfl
  · by_cases q : y = x
    · subst q
      cases hD.symm.trans hy
      exact ⟨E', q1.1, q2.2.1, q2.1, hsz⟩
    · exact ⟨cy, q10 y cy q hy, rfl, rfl, rfl⟩
  · obtain ⟨D3, cf, k, i, f, g1, g2, g3, g4, g5, g6, g7⟩ := F
    cases hD.symm.trans g1
    simp only [RoadKit.slotOf, g2, gV, gC, Option.map_some, Option.getD_some] at n1 n2
    exact ⟨E', cf, k, i, f, q1.1, g2, g3, by rw [q2.1]; exact g4, by rw [q2.1]; exact g5, by rw [q2.2.1]; exact g6, by rw [q2.2.2 f.slot (by simp [n1, n2])]; exact g7⟩
end StrChars.Road
namespace StrChars.Road
open Jvm Sem ClassFile Op Lib Jvm.Stand Jvm.Free Jvm.Free.XT
/-- WHAT COMES BACK, the byte[] as a list of values -/
def QA (Z : State) (x : Addr) (zn : Int32) (cs : List Int32) (h : Heap) (v : Option Value) (h' : Heap) (L : List Loc) : Prop := v = none ∧ (∀ y ∈ L, y.base = x) ∧ RoadKit.Keep h h' [x] ∧ h'.size = h.size + 1 ∧ RoadKit.Exa Z h' x ST ∧ RoadKit.Fld Z h' x ST "value" "[B" (.ref h.size) ∧ RoadKit.Fld Z h' x ST "coder" "B" (.int 0) ∧
  (∃ kb, Z.vm.findClass "[B" = some kb ∧ RoadKit.Arv Z h' h.size kb .byte zn (cs.map fun c => .int (lo8 c)) (.int 0)) ∧
  ∀ (O n d : String) (w : Value), RoadKit.Fld Z h x O n d w → RoadKit.slotOf Z O n d ≠ RoadKit.slotOf Z ST "value" "[B" → RoadKit.slotOf Z O n d ≠ RoadKit.slotOf Z ST "coder" "B" → RoadKit.Fld Z h' x O n d w
/-- **new String(chars) AT A CALL, THE ARRAYS AS LISTS**: the char[] at b holds cs, not empty, no char above 255 -/
theorem backArv {p : Program} {l : Launch} {e : Env} {R : Room} {s : State} {args : Array Value} {below : List Frame} {len W : Nat} {Z : State} {a0 : Array Value} {h : Heap} (hZ : Z.Warmed39 s.vm) (hw : ∀ d ∈ words, d.before a0 Z = true) {kI : Nat} (wi : (Jvm.Cond.instantiable ST kI).before a0 Z = true)
    {x b : Addr} {k : ClassId} {zn z : Int32} {cs : List Int32} {dv v0 c0 : Value} (E : RoadKit.Exa Z h x ST) (V : RoadKit.Fld Z h x ST "value" "[B" v0) (C : RoadKit.Fld Z h x ST "coder" "B" c0) (K : RoadKit.Arv Z h b k .char zn (cs.map Value.int) dv) (S : RoadKit.Sta Z h ST "COMPACT_STRINGS" "Z" (.int z)) (hz : ¬ z = 0)
    (hlen : zn.toNatClampNeg = cs.length) (h0 : 0 < cs.length) (hbig : cs.length ≤ 536870912) (hall : ∀ c ∈ cs, ¬ 255 < c) (hfr : 4 ≤ R.frames) (hlo : W + 65 ≤ R.locals) :
    Back l R p e below s args New1.yN len W (fun P a => a = #[.ref x, .ref b] ∧ P.U.heap = h ∧ P.cells + 1 ≤ R.cells ∧ P.slots + cs.length ≤ R.slots)
      (fun P _ v B => ∃ L, QA Z x zn cs h v B.U.heap L ∧ B.locs = P.locs ++ L ∧ B.cells = P.cells + 1 ∧ B.slots = P.slots + cs.length) := by
  obtain ⟨A, K1, K2, K3, K4, K5, K6⟩ := K
  have e : A.slots.size = cs.length := K3.trans hlen
  have hat : ∀ (i : Nat) (hi : i < cs.length), A.slots[i]? = some (.int cs[i]) := fun i hi => by rw [K5 i (by omega)]; simp [List.getD_eq_getElem?_getD, hi]
  have hcv : ∀ (i : Nat) (hi : i < cs.length), cv A i = cs[i] := fun i hi => by unfold cv; rw [hat i hi]
  have hty : Typed .char A := fun i v hv => by
    have hi : i < A.slots.size := (Array.getElem?_eq_some_iff.mp hv).1
    have q := K5 i hi
    rw [hv] at q
    rw [Option.some.inj q]
    exact K6 i hi
  refine Back.mono (back hZ hw wi E V C K1 hty S hz (by omega) (by omega) (fun i hi => by rw [hcv i (by omega)]; exact hall _ (List.getElem_mem _)) hfr hlo) (fun P a hp => ⟨hp.1, hp.2.1, hp.2.2.1, by rw [e]; exact hp.2.2.2⟩) (fun P a v B hp hq => ?_)
  obtain ⟨L, ⟨q1, q2, q3, q4, q5, q6, q7, ⟨V', v1, v2, v3, v4, v5⟩, q9⟩, hl, hc, hs⟩ := hq
  refine ⟨L, ⟨q1, q2, q3, q4, q5, q6, q7, ⟨V'.cls, v3, V', v1, rfl, by rw [v4, e, hlen], K4, fun i hi => ?_, fun i hi => ?_⟩, q9⟩, hl, hc, by rw [hs, e]⟩
  · have hi' : i < cs.length := by omega
    rw [v5 i (by omega), hcv i hi']; simp [List.getD_eq_getElem?_getD, hi']
  · have hi' : i < cs.length := by omega
    simp only [List.getD_eq_getElem?_getD, List.getElem?_map, List.getElem?_eq_getElem hi', Option.map_some, Option.getD_some]
    exact fits_lo8 _
end StrChars.Road
namespace StrChars.Road
open Jvm Sem ClassFile Op Lib Jvm.Stand Jvm.Free Jvm.Free.XT
/-- WHAT COMES BACK, in the writer's own shape -/
def QV (Z : State) (x : Addr) (N : Int32) (bs : List Int32) (h : Heap) (n0 : Nat) (v : Option Value) (h' : Heap) (L : List Loc) : Prop := v = none ∧ RoadKit.Fr n0 L ∧ RoadKit.Keep h h' [x] ∧ RoadKit.Exa Z h' x ST ∧ RoadKit.Fld Z h' x ST "coder" "B" (.int 0) ∧
  ∃ (t : Addr) (kb : ClassId), n0 ≤ t ∧ h.size ≤ t ∧ ¬ t = x ∧ RoadKit.Fld Z h' x ST "value" "[B" (.ref t) ∧ RoadKit.Arv Z h' t kb .byte N (bs.map Value.int) (.int 0)
/-- **new String(chars) AT A CALL, FOR THE WRITER**: a char[] of n known ints, each 0 to 255 -/
theorem backV {p : Program} {l : Launch} {e : Env} {R : Room} {s : State} {args : Array Value} {below : List Frame} {len W : Nat} {Z : State} {a0 : Array Value} {h : Heap} (hZ : Z.Warmed39 s.vm) (hw : ∀ d ∈ words, d.before a0 Z = true) {kI : Nat} (wi : (Jvm.Cond.instantiable ST kI).before a0 Z = true)
    {x b : Addr} {kC : ClassId} {cs bs : List Int32} {d v0 c0 : Value} {z N : Int32} {n n0 : Nat} (hx0 : n0 ≤ x) (hh0 : n0 ≤ h.size) (E : RoadKit.Exa Z h x ST) (V : RoadKit.Fld Z h x ST "value" "[B" v0) (C : RoadKit.Fld Z h x ST "coder" "B" c0) (K : RoadKit.Arv Z h b kC .char N (cs.map Value.int) d) (S : RoadKit.Sta Z h ST "COMPACT_STRINGS" "Z" (.int z)) (hz : ¬ z = 0)
    (hn : cs.length = n) (hN : N = Int32.ofNat n) (l0 : 0 < n) (l2 : n ≤ 4000) (hp : ∀ c ∈ cs, ¬ c < 0 ∧ ¬ (255 : Int32) < c) (hb : bs = cs.map (fun c => c.toInt8.toInt32)) (hfr : 4 ≤ R.frames) (hlo : W + 65 ≤ R.locals) :
    Back l R p e below s args (⟨"java/lang/String", "<init>", "([C)V"⟩ : MethodName) len W (fun P a => a = #[.ref x, .ref b] ∧ P.U.heap = h ∧ P.cells + 1 ≤ R.cells ∧ P.slots + n ≤ R.slots)
      (fun P _ v B => ∃ L, QV Z x N bs h n0 v B.U.heap L ∧ B.locs = P.locs ++ L ∧ B.cells = P.cells + 1 ∧ B.slots = P.slots + n) := by
  subst hn hN hb
  refine Back.mono (backArv hZ hw wi E V C K S hz (n32 (by omega)) l0 (by omega) (fun c hc => (hp c hc).2) hfr hlo) (fun P a hp => hp) (fun P a v B hp hq => ?_)
  obtain ⟨L, ⟨q1, q2, q3, q4, q5, q6, q7, ⟨kb, v1, v2⟩, q9⟩, hl, hc, hs⟩ := hq
  exact ⟨L, ⟨q1, fun y hy => by rw [q2 y hy]; exact hx0, q3, q5, q7, h.size, kb, hh0, Nat.le_refl _, Nat.ne_of_gt E.lt, q6, by rw [List.map_map]; exact v2⟩, hl, hc, hs⟩
end StrChars.Road
namespace StrChars
open Jvm Sem ClassFile Op Lib Jvm.Stand Jvm.Free.XT Jvm.Free.ALB Jvm.Free.JM Jvm.Free
open Jvm.Lib.Cold (StaticIs)
def hi8 (x : Int32) : Int32 := lo8 (x >>> ((8 : Int32) &&& 31))
/-- what StringUTF16.getChar makes of two bytes -/
def pairCh (u v : Int32) : Int32 := (((u &&& 255) <<< ((0 : Int32) &&& 31)) ||| ((v &&& 255) <<< ((8 : Int32) &&& 31))).toUInt32.toUInt16.toUInt32.toInt32
theorem shr0 (c : Int32) : c >>> ((0 : Int32) &&& 31) = c := by
  have e : ((0 : Int32) &&& 31) = 0 := by decide
  rw [e]
  apply Int32.toBitVec_inj.mp
  rw [Int32.toBitVec_shiftRight]
  have e1 : ((0 : Int32).toBitVec.smod 32) = 0#32 := by decide
  rw [e1, BitVec.sshiftRight_eq']
  exact BitVec.sshiftRight_zero
theorem lo8_and (x : Int32) : (lo8 x &&& 255).toBitVec.toNat = x.toBitVec.toNat % 256 := by
  have h : (lo8 x).toBitVec = (x.toBitVec.signExtend 8).signExtend 32 := by rw [lo8, Int8.toBitVec_toInt32, Int32.toBitVec_toInt8]
  rw [Int32.toBitVec_and, BitVec.toNat_and, h]
  have e : ((x.toBitVec.signExtend 8).signExtend 32).toNat % 256 = x.toBitVec.toNat % 256 := by
    rw [BitVec.toNat_signExtend]
    have hlt := x.toBitVec.isLt
    simp only [BitVec.toNat_setWidth, BitVec.toNat_signExtend]
    split <;> split <;> omega
  rw [← e]
  exact Nat.and_two_pow_sub_one_eq_mod _ 8
theorem pair_says {c : Int32} (h0 : ¬ c < 0) (h1 : ¬ 65535 < c) : pairCh (lo8 c) (hi8 c) = c := by
  rw [Int32.lt_iff_toInt_lt] at h0 h1
  have e0 : (0 : Int32).toInt = 0 := rfl
  have e1 : (65535 : Int32).toInt = 65535 := rfl
  have hc : c.toInt = c.toBitVec.toNat := by
    have := c.toBitVec.isLt
    have e : c.toInt = c.toBitVec.toInt := rfl
    rw [e] at h0 h1
    rw [e]
    rw [BitVec.toInt_eq_toNat_cond] at h0 h1 ⊢
    split at h0 <;> split <;> omega
  have hn : c.toBitVec.toNat < 65536 := by omega
  have a1 := lo8_and c
  have a2 : (hi8 c &&& 255).toBitVec.toNat = c.toBitVec.toNat / 256 := by
    rw [hi8, lo8_and]
    have e : ((8 : Int32) &&& 31) = 8 := by decide
    rw [e, Int32.toBitVec_shiftRight]
    have e2 : ((8 : Int32).toBitVec.smod 32) = 8#32 := by decide
    rw [e2, BitVec.sshiftRight_eq', BitVec.toNat_sshiftRight_of_msb_false (by rw [BitVec.msb_eq_false_iff_two_mul_lt]; omega)]
    show c.toBitVec.toNat >>> 8 % 256 = _
    rw [Nat.shiftRight_eq_div_pow]
    omega
  unfold pairCh
  apply Int32.toBitVec_inj.mp
  apply BitVec.eq_of_toNat_eq
  have f0 : ((0 : Int32) &&& 31) = 0 := by decide
  have f8 : ((8 : Int32) &&& 31) = 8 := by decide
  rw [f0, f8]
  have g : (((lo8 c &&& 255) <<< (0 : Int32)) ||| ((hi8 c &&& 255) <<< (8 : Int32))).toBitVec.toNat = c.toBitVec.toNat := by
    rw [Int32.toBitVec_or, Int32.toBitVec_shiftLeft, Int32.toBitVec_shiftLeft]
    have s0 : ((0 : Int32).toBitVec.smod 32) = 0#32 := by decide
    have s8 : ((8 : Int32).toBitVec.smod 32) = 8#32 := by decide
    rw [s0, s8, BitVec.toNat_or]
    simp only [BitVec.shiftLeft_eq', BitVec.toNat_shiftLeft, a1, a2]
    show (c.toBitVec.toNat % 256) <<< 0 % 2 ^ 32 ||| (c.toBitVec.toNat / 256) <<< 8 % 2 ^ 32 = _
    rw [Nat.shiftLeft_zero, Nat.mod_eq_of_lt (show c.toBitVec.toNat % 256 < 2 ^ 32 by omega), Nat.mod_eq_of_lt (show (c.toBitVec.toNat / 256) <<< 8 < 2 ^ 32 by rw [Nat.shiftLeft_eq]; omega), Nat.or_comm, ← Nat.shiftLeft_add_eq_or_of_lt (by omega), Nat.shiftLeft_eq]
    omega
  show BitVec.toNat (((((lo8 c &&& 255) <<< (0 : Int32)) ||| ((hi8 c &&& 255) <<< (8 : Int32))).toBitVec.setWidth 16).setWidth 32) = _
  rw [BitVec.toNat_setWidth, BitVec.toNat_setWidth, g]
  omega
end StrChars
namespace StrChars
open Jvm Sem ClassFile Op Lib Jvm.Stand Jvm.Free.XT Jvm.Free.ALB Jvm.Free.JM Jvm.Free
open Jvm.Lib.Cold (StaticIs)
theorem shr1 {n : Nat} (h : 2 * n < 2 ^ 31) : Int32.ofNat (2 * n) >>> ((1 : Int32) &&& 31) = Int32.ofNat n := by
  have e : ((1 : Int32) &&& 31) = 1 := by decide
  rw [e]
  apply Int32.toBitVec_inj.mp
  rw [Int32.toBitVec_shiftRight]
  have e1 : ((1 : Int32).toBitVec.smod 32) = 1#32 := by decide
  have hm : (BitVec.ofNat 32 (2 * n)).toNat = 2 * n := by rw [BitVec.toNat_ofNat, Nat.mod_eq_of_lt (by omega)]
  rw [e1, BitVec.sshiftRight_eq']
  apply BitVec.eq_of_toNat_eq
  show ((BitVec.ofNat 32 (2 * n)).sshiftRight 1).toNat = (BitVec.ofNat 32 n).toNat
  rw [BitVec.toNat_sshiftRight_of_msb_false (by rw [BitVec.msb_eq_false_iff_two_mul_lt, hm]; omega), hm, BitVec.toNat_ofNat, Nat.shiftRight_eq_div_pow]
  omega
/-- charAt's cast of a byte read back -/
def chr8 (u : Int32) : Int32 := (u &&& 255).toUInt32.toUInt16.toUInt32.toInt32
theorem chr8_lo8 {c : Int32} (h0 : ¬ c < 0) (h1 : ¬ 255 < c) : chr8 (lo8 c) = c := by
  have t : ∀ k : Fin 256, (Int32.ofNat k.val).toUInt32.toUInt16.toUInt32.toInt32 = Int32.ofNat k.val := by decide +kernel
  unfold chr8
  rw [lo8_mask h0 h1]
  rw [Int32.lt_iff_toInt_lt] at h0 h1
  have e0 : (0 : Int32).toInt = 0 := rfl
  have e1 : (255 : Int32).toInt = 255 := rfl
  obtain ⟨k, hk⟩ : ∃ k : Nat, c.toInt = k := ⟨c.toInt.toNat, by omega⟩
  have hx : c = Int32.ofNat k := Int32.toInt_inj.mp (by rw [hk, Int32.toInt_ofNat_small (by omega)])
  rw [hx]
  exact t ⟨k, by omega⟩
theorem narrow_ch {c : Int32} (h0 : ¬ c < 0) (h1 : ¬ 65535 < c) : narrow .char (.int c) = .int c := by
  have q : narrow .char (.int (pairCh (lo8 c) (hi8 c))) = .int (pairCh (lo8 c) (hi8 c)) := narrow_c _
  rwa [pair_says h0 h1] at q
/-- the array's cell V codes the n chars f 0 .. f (n - 1) by the coder cd, as the JDK does: coder 1 just where some char is above 255 -/
def Cod (cd : Int32) (n : Nat) (f : Nat → Int32) (V : Cell) : Prop := (cd = 0 ∧ V.slots.size = n ∧ ∀ j, j < n → V.slots[j]? = some (.int (lo8 (f j))) ∧ ¬ 255 < f j) ∨ (cd = 1 ∧ V.slots.size = 2 * n ∧ (∀ j, j < n → V.slots[2 * j]? = some (.int (lo8 (f j))) ∧ V.slots[2 * j + 1]? = some (.int (hi8 (f j)))) ∧ ∃ j, j < n ∧ 255 < f j)
theorem Cod.cd {cd : Int32} {n : Nat} {f : Nat → Int32} {V : Cell} (h : Cod cd n f V) : cd = 0 ∨ cd = 1 := h.imp (fun q => q.1) fun q => q.1
theorem Cod.len {cd : Int32} {n : Nat} {f : Nat → Int32} {V : Cell} (h : Cod cd n f V) (hs : V.slots.size < 2 ^ 31) : Int32.ofNat V.slots.size >>> (cd &&& 31) = Int32.ofNat n := by
  rcases h with ⟨rfl, h, -⟩ | ⟨rfl, h, -⟩
  · rw [shr0, h]
  · rw [h, shr1 (by omega)]
/-- **x is a String of the n chars f 0 .. f (n - 1)**, Latin-1 or UTF-16; its array at t has the cell V -/
def Txt (x t : Addr) (V : Cell) (cd : Int32) (n : Nat) (f : Nat → Int32) (U : State) : Prop := Exact "java/lang/String" x U ∧ Has x "java/lang/String" "value" "[B" (.ref t) U ∧ Has x "java/lang/String" "coder" "B" (.int cd) U ∧ XT.Arr .byte t V U ∧ Cod cd n f V ∧ ∀ j, j < n → ¬ f j < 0 ∧ ¬ 65535 < f j
theorem Txt.mv {x t : Addr} {V : Cell} {cd : Int32} {n : Nat} {f : Nat → Int32} {U U' : State} (h : Txt x t V cd n f U) (hal : U.vm.Alike U'.vm) (hh : U'.heap = U.heap) : Txt x t V cd n f U' := ⟨h.1.mv hal hh, h.2.1.mv hal hh, h.2.2.1.mv hal hh, h.2.2.2.1.mv hal hh, h.2.2.2.2⟩
namespace Cdr
def yN : MethodName := ⟨"java/lang/String", "coder", "()B"⟩
abbrev yB : ByteArray := jdk_42_method_152_code
theorem d0 : decode yB 0 = .ok (.getstatic 38, 3) := by decide +kernel
theorem d3 : decode yB 3 = .ok (.ifCond (.eq) 10, 3) := by decide +kernel
theorem d6 : decode yB 6 = .ok (.aload_n 0, 1) := by decide +kernel
theorem d7 : decode yB 7 = .ok (.getfield 15, 3) := by decide +kernel
theorem d10 : decode yB 10 = .ok (.goto 4, 3) := by decide +kernel
theorem d14 : decode yB 14 = .ok (.ireturn, 1) := by decide +kernel
def site : List Cond := [.fieldLink "java/lang/String" 38 "java/lang/String" "COMPACT_STRINGS" "Z", .fieldLink "java/lang/String" 15 "java/lang/String" "coder" "B"]
def tab : Cond := tabOf yN yB 1 (some .byte) site
def P (x : Addr) (cd z : Int32) (args : Array Value) (s : State) : Prop := args = #[.ref x] ∧ Has x "java/lang/String" "coder" "B" (.int cd) s ∧ (cd = 0 ∨ cd = 1) ∧ StaticIs s "java/lang/String" "COMPACT_STRINGS" "Z" (.int z) ∧ ¬ z = 0
def E (cd : Int32) (r : Option Value) (s u : State) : Prop := XT.PureE (some (.int cd)) r s u
theorem law (l : Launch) (x : Addr) (cd z : Int32) : Law l yN 1 0 0 0 yB 1 (some .byte) site (P x cd z) (E cd) [] 0 0 := by
  refine Law.of_walk (plainFor_of_name (by decide +kernel)) (by decide +kernel) (by decide +kernel) (by decide) (fun _ _ h => by rw [h.1]; rfl) (fun _ U U' hal hh h => ⟨h.1, h.2.1.mv hal hh, h.2.2.1, h.2.2.2.1.there hal hh, h.2.2.2.2⟩) (fun r U U' V V' h1 hal h2 h => XT.PureE.mv r U U' V V' h1 hal h2 h) ?_
  intro p e s m args below meth c s₁ X0 hexec hbytes hml hret hlk hnm hown hh0 W hP
  obtain ⟨rfl, hx, hc, s1, hz⟩ := hP
  have c1 : Steps p.tables e below (s₁.setTop (entryFrame m #[.ref x] 1)) (s₁.setTop (mkF m 0 #[.val (.ref x)] [])) := entry rfl
  obtain ⟨T2, X2, q2, st2⟩ := X0.sget hexec hown (wk W (.fieldLink "java/lang/String" 38 "java/lang/String" "COMPACT_STRINGS" "Z")) s1 (fun _ _ h => by rw [hh0]; exact h) (g := (mkF m 0 #[.val (.ref x)] [])) rfl (hb hbytes d0)
  have hh2 := q2.trans hh0
  have c3 : Steps p.tables e below (s₁.setTop (entryFrame m #[.ref x] 1)) (T2.setTop (mkF m 7 #[.val (.ref x)] [.ref x])) := (c1.trans (st2 _ (Steps.refl _))).trans (by
    refine XS.ifNo X2.here hexec rfl (hb hbytes d3) rfl (i0_eq_f hz) ?_
    refine XS.aloadN X2.here hexec rfl (hb hbytes d6) rfl rfl ?_
    exact Steps.refl _)
  obtain ⟨T4, X4, q4, st4⟩ := X2.hget hexec hown (wk W (.fieldLink "java/lang/String" 15 "java/lang/String" "coder" "B")) (hx.mv X2.warmed.alike hh2) (g := (mkF m 7 #[.val (.ref x)] [.ref x])) rfl (rest := []) rfl (hb hbytes d7)
  have c5 : Steps p.tables e below (s₁.setTop (entryFrame m #[.ref x] 1)) (T4.setTop (mkF m 14 #[.val (.ref x)] [.int cd])) := (c3.trans (st4 _ (Steps.refl _))).trans (by
    refine XS.goto X4.here hexec rfl (pc0 := 10) rfl (hb hbytes d10) (by decide) rfl ?_
    exact Steps.refl _)
  exact ⟨T4, some (.int cd), _, _, _, X4, rfl, rfl, rfl, (fun h => by cases h), ⟨rfl, q4.trans hh2⟩, fun fs hl => c5.trans (X4.ireturnOut hexec hret (by rcases hc with rfl | rfl <;> rfl) (Or.inr (Or.inr (Or.inl rfl))) (hb hbytes d14) hl)⟩
end Cdr
namespace Len
def yN : MethodName := ⟨"java/lang/String", "length", "()I"⟩
abbrev yB : ByteArray := jdk_42_method_54_code
theorem d0 : decode yB 0 = .ok (.aload_n 0, 1) := by decide +kernel
theorem d1 : decode yB 1 = .ok (.getfield 9, 3) := by decide +kernel
theorem d4 : decode yB 4 = .ok (.arraylength, 1) := by decide +kernel
theorem d5 : decode yB 5 = .ok (.aload_n 0, 1) := by decide +kernel
theorem d6 : decode yB 6 = .ok (.invokevirtual 335, 3) := by decide +kernel
theorem d9 : decode yB 9 = .ok (.ishr, 1) := by decide +kernel
theorem d10 : decode yB 10 = .ok (.ireturn, 1) := by decide +kernel
def site : List Cond := [.fieldLink "java/lang/String" 9 "java/lang/String" "value" "[B", Cdr.tab] ++ virtW "java/lang/String" 335 "java/lang/String" Cdr.yN Cdr.yN
def tab : Cond := tabOf yN yB 1 (some .int) site
def P (x t : Addr) (V : Cell) (cd : Int32) (n : Nat) (f : Nat → Int32) (z : Int32) (args : Array Value) (s : State) : Prop := args = #[.ref x] ∧ Txt x t V cd n f s ∧ StaticIs s "java/lang/String" "COMPACT_STRINGS" "Z" (.int z) ∧ ¬ z = 0
def E (n : Nat) (r : Option Value) (s u : State) : Prop := XT.PureE (some (.int (Int32.ofNat n))) r s u
/-- length() of a String of n chars, in either coding -/
theorem law (l : Launch) (x t : Addr) (V : Cell) (cd : Int32) (n : Nat) (f : Nat → Int32) (z : Int32) : Law l yN 1 0 1 13 yB 1 (some .int) site (P x t V cd n f z) (E n) [] 0 0 := by
  refine Law.of_walk (plainFor_of_name (by decide +kernel)) (by decide +kernel) (by decide +kernel) (by decide) (fun _ _ h => by rw [h.1]; rfl) (fun _ U U' hal hh h => ⟨h.1, h.2.1.mv hal hh, h.2.2.1.there hal hh, h.2.2.2⟩) (fun r U U' V V' h1 hal h2 h => XT.PureE.mv r U U' V V' h1 hal h2 h) ?_
  intro p e s m args below meth c s₁ X0 hexec hbytes hml hret hlk hnm hown hh0 W hP
  obtain ⟨rfl, hx, s1, hz⟩ := hP
  have v31 := hx.2.2.2.1.2.2.2
  have c1 : Steps p.tables e below (s₁.setTop (entryFrame m #[.ref x] 1)) (s₁.setTop (mkF m 1 #[.val (.ref x)] [.ref x])) := Steps.trans (entry rfl) (by
    show Steps p.tables e below (s₁.setTop (mkF m 0 #[.val (.ref x)] [])) _
    refine XS.aloadN X0.here hexec rfl (hb hbytes d0) rfl rfl ?_
    exact Steps.refl _)
  obtain ⟨T2, X2, q2, st2⟩ := X0.hget hexec hown (wk W (.fieldLink "java/lang/String" 9 "java/lang/String" "value" "[B")) (hx.mv X0.warmed.alike hh0).2.1 (g := (mkF m 1 #[.val (.ref x)] [.ref x])) rfl (rest := []) rfl (hb hbytes d1)
  have hh2 := q2.trans hh0
  have hx2 := hx.mv X2.warmed.alike hh2
  have c3 : Steps p.tables e below (s₁.setTop (entryFrame m #[.ref x] 1)) (T2.setTop (mkF m 6 #[.val (.ref x)] [.ref x, .int (Int32.ofNat V.slots.size)])) := (c1.trans (st2 _ (Steps.refl _))).trans (by
    refine X2.alen hexec hx2.2.2.2.1 rfl rfl (hb hbytes d4) ?_
    refine XS.aloadN X2.here hexec rfl (hb hbytes d5) rfl rfl ?_
    exact Steps.refl _)
  obtain ⟨v4, T4, X4, E4, g4⟩ := X2.callV hexec (Cdr.law l x cd z) hown (wks W (virtW "java/lang/String" 335 "java/lang/String" Cdr.yN Cdr.yN)) rfl (by decide) (wk W Cdr.tab) (W := 1) (Nat.le_of_ble_eq_true rfl) (Nat.le_of_ble_eq_true rfl) (Nat.le_refl _) (Nat.le_refl _) (hx2.1.fc X2.warmed.alike) hx2.1.is (g := (mkF m 6 #[.val (.ref x)] [.ref x, .int (Int32.ofNat V.slots.size)])) rfl (by rw [hml]; rfl) c3 (argsL := []) (rest := [.int (Int32.ofNat V.slots.size)]) rfl rfl (by show 2 * 0 + (1 + 0) ≤ _; decide) (hb hbytes d6) (⟨rfl, hx2.2.2.1, hx.2.2.2.2.1.cd, s1.there X2.warmed.alike hh2, hz⟩)
  obtain ⟨rfl, q4⟩ := E4
  have c5 : Steps p.tables e below (s₁.setTop (entryFrame m #[.ref x] 1)) (T4.setTop (mkF m 10 #[.val (.ref x)] [.int (Int32.ofNat V.slots.size >>> (cd &&& 31))])) := Steps.trans g4 (by
    refine ishr X4.here hexec rfl (hb hbytes d9) rfl ?_
    exact Steps.refl _)
  rw [hx.2.2.2.2.1.len v31] at c5
  exact ⟨T4, some (.int (Int32.ofNat n)), _, _, _, X4, rfl, rfl, rfl, (fun h => by cases h), ⟨rfl, q4.trans hh2⟩, fun fs hl => c5.trans (X4.ireturnOut hexec hret rfl (Or.inl rfl) (hb hbytes d10) hl)⟩
theorem pays {l : Launch} {R : Room} {p : Program} {e : Env} {below : List Frame} {s : State} {sargs : Array Value} {len W : Nat} (x t : Addr) (V : Cell) (cd : Int32) (n : Nat) (f : Nat → Int32) (z : Int32) (htab : tab.before sargs s = true) (hfr : 2 ≤ R.frames) (hlo : W + 25 ≤ R.locals) :
    Back l R p e below s sargs yN len W (fun A₁ a₁ => A₁.cells + 0 ≤ R.cells ∧ A₁.slots + 0 ≤ R.slots ∧ P x t V cd n f z a₁ A₁.U) (fun A₁ _ v₁ B₁ => E n v₁ A₁.U B₁.U ∧ B₁.locs = A₁.locs ++ [] ∧ B₁.cells = A₁.cells + 0 ∧ B₁.slots = A₁.slots + 0) :=
  (law l x t V cd n f z).pays htab hfr (by omega)
end Len
namespace IsL
def yN : MethodName := ⟨"java/lang/String", "isLatin1", "()Z"⟩
abbrev yB : ByteArray := jdk_42_method_154_code
theorem d0 : decode yB 0 = .ok (.getstatic 38, 3) := by decide +kernel
theorem d3 : decode yB 3 = .ok (.ifCond (.eq) 14, 3) := by decide +kernel
theorem d6 : decode yB 6 = .ok (.aload_n 0, 1) := by decide +kernel
theorem d7 : decode yB 7 = .ok (.getfield 15, 3) := by decide +kernel
theorem d10 : decode yB 10 = .ok (.ifCond (.ne) 7, 3) := by decide +kernel
theorem d13 : decode yB 13 = .ok (.iconst 1, 1) := by decide +kernel
theorem d14 : decode yB 14 = .ok (.goto 4, 3) := by decide +kernel
theorem d17 : decode yB 17 = .ok (.iconst 0, 1) := by decide +kernel
theorem d18 : decode yB 18 = .ok (.ireturn, 1) := by decide +kernel
def site : List Cond := [.fieldLink "java/lang/String" 38 "java/lang/String" "COMPACT_STRINGS" "Z", .fieldLink "java/lang/String" 15 "java/lang/String" "coder" "B"]
def tab : Cond := tabOf yN yB 1 (some .boolean) site
def P (x : Addr) (cd z : Int32) (args : Array Value) (s : State) : Prop := args = #[.ref x] ∧ Has x "java/lang/String" "coder" "B" (.int cd) s ∧ (cd = 0 ∨ cd = 1) ∧ StaticIs s "java/lang/String" "COMPACT_STRINGS" "Z" (.int z) ∧ ¬ z = 0
def E (cd : Int32) (r : Option Value) (s u : State) : Prop := XT.PureE (some (.int (1 - cd))) r s u
theorem law (l : Launch) (x : Addr) (cd z : Int32) : Law l yN 1 0 0 0 yB 1 (some .boolean) site (P x cd z) (E cd) [] 0 0 := by
  refine Law.of_walk (plainFor_of_name (by decide +kernel)) (by decide +kernel) (by decide +kernel) (by decide) (fun _ _ h => by rw [h.1]; rfl) (fun _ U U' hal hh h => ⟨h.1, h.2.1.mv hal hh, h.2.2.1, h.2.2.2.1.there hal hh, h.2.2.2.2⟩) (fun r U U' V V' h1 hal h2 h => XT.PureE.mv r U U' V V' h1 hal h2 h) ?_
  intro p e s m args below meth c s₁ X0 hexec hbytes hml hret hlk hnm hown hh0 W hP
  obtain ⟨rfl, hx, hc, s1, hz⟩ := hP
  have c1 : Steps p.tables e below (s₁.setTop (entryFrame m #[.ref x] 1)) (s₁.setTop (mkF m 0 #[.val (.ref x)] [])) := entry rfl
  obtain ⟨T2, X2, q2, st2⟩ := X0.sget hexec hown (wk W (.fieldLink "java/lang/String" 38 "java/lang/String" "COMPACT_STRINGS" "Z")) s1 (fun _ _ h => by rw [hh0]; exact h) (g := (mkF m 0 #[.val (.ref x)] [])) rfl (hb hbytes d0)
  have hh2 := q2.trans hh0
  have c3 : Steps p.tables e below (s₁.setTop (entryFrame m #[.ref x] 1)) (T2.setTop (mkF m 7 #[.val (.ref x)] [.ref x])) := (c1.trans (st2 _ (Steps.refl _))).trans (by
    refine XS.ifNo X2.here hexec rfl (hb hbytes d3) rfl (i0_eq_f hz) ?_
    refine XS.aloadN X2.here hexec rfl (hb hbytes d6) rfl rfl ?_
    exact Steps.refl _)
  obtain ⟨T4, X4, q4, st4⟩ := X2.hget hexec hown (wk W (.fieldLink "java/lang/String" 15 "java/lang/String" "coder" "B")) (hx.mv X2.warmed.alike hh2) (g := (mkF m 7 #[.val (.ref x)] [.ref x])) rfl (rest := []) rfl (hb hbytes d7)
  have c5 : Steps p.tables e below (s₁.setTop (entryFrame m #[.ref x] 1)) (T4.setTop (mkF m 10 #[.val (.ref x)] [.int cd])) := c3.trans (st4 _ (Steps.refl _))
  have c6 : Steps p.tables e below (s₁.setTop (entryFrame m #[.ref x] 1)) (T4.setTop (mkF m 18 #[.val (.ref x)] [.int (1 - cd)])) := by
    rcases hc with rfl | rfl
    · exact c5.trans (by
        refine XS.ifNo X4.here hexec rfl (hb hbytes d10) rfl (i0_ne_f rfl) ?_
        refine iconstV X4.here hexec rfl 1 (hb hbytes d13) (by decide) ?_
        refine XS.goto X4.here hexec rfl (pc0 := 14) rfl (hb hbytes d14) (by decide) rfl ?_
        exact Steps.refl _)
    · exact c5.trans (by
        refine XS.ifYes X4.here hexec rfl (pc0 := 10) rfl (hb hbytes d10) rfl (i0_ne_t (by decide)) (by decide) rfl ?_
        refine iconstV X4.here hexec rfl 0 (hb hbytes d17) (by decide) ?_
        exact Steps.refl _)
  exact ⟨T4, some (.int (1 - cd)), _, _, _, X4, rfl, rfl, rfl, (fun h => by cases h), ⟨rfl, q4.trans hh2⟩, fun fs hl => c6.trans (X4.ireturnOut hexec hret (by rcases hc with rfl | rfl <;> rfl) (Or.inr (Or.inl rfl)) (hb hbytes d18) hl)⟩
end IsL
namespace LChA
def yN : MethodName := ⟨"java/lang/StringLatin1", "charAt", "([BI)C"⟩
abbrev yB : ByteArray := jdk_43_method_2_code
theorem d0 : decode yB 0 = .ok (.iload_n 1, 1) := by decide +kernel
theorem d1 : decode yB 1 = .ok (.aload_n 0, 1) := by decide +kernel
theorem d2 : decode yB 2 = .ok (.arraylength, 1) := by decide +kernel
theorem d3 : decode yB 3 = .ok (.invokestatic 9, 3) := by decide +kernel
theorem d6 : decode yB 6 = .ok (.aload_n 0, 1) := by decide +kernel
theorem d7 : decode yB 7 = .ok (.iload_n 1, 1) := by decide +kernel
theorem d8 : decode yB 8 = .ok (.baload, 1) := by decide +kernel
theorem d9 : decode yB 9 = .ok (.sipush 255, 3) := by decide +kernel
theorem d12 : decode yB 12 = .ok (.iand, 1) := by decide +kernel
theorem d13 : decode yB 13 = .ok (.i2c, 1) := by decide +kernel
theorem d14 : decode yB 14 = .ok (.ireturn, 1) := by decide +kernel
def site : List Cond := [JO.Str_checkIndex.tab] ++ staticW "java/lang/StringLatin1" 9 JO.Str_checkIndex.yN
def tab : Cond := tabOf yN yB 2 (some .char) site
def P (t : Addr) (V : Cell) (i : Nat) (u : Int32) (fm : Value) (args : Array Value) (s : State) : Prop := args = #[.ref t, .int (Int32.ofNat i)] ∧ XT.Arr .byte t V s ∧ V.slots[i]? = some (.int u) ∧ (StaticIs s "jdk/internal/util/Preconditions" "SIOOBE_FORMATTER" "Ljava/util/function/BiFunction;" fm ∧ fm.isRef = true)
def E (u : Int32) (r : Option Value) (s w : State) : Prop := XT.PureE (some (.int (chr8 u))) r s w
theorem law (l : Launch) (t : Addr) (V : Cell) (i : Nat) (u : Int32) (fm : Value) : Law l yN 2 2 2 27 yB 2 (some .char) site (P t V i u fm) (E u) [] 0 0 := by
  refine Law.of_walk (plainFor_of_name (by decide +kernel)) (by decide +kernel) (by decide +kernel) (by decide) (fun _ _ h => by rw [h.1]; rfl) (fun _ U U' hal hh h => ⟨h.1, h.2.1.mv hal hh, h.2.2.1, h.2.2.2.1.there hal hh, h.2.2.2.2⟩) (fun r U U' V V' h1 hal h2 h => XT.PureE.mv r U U' V V' h1 hal h2 h) ?_
  intro p e s m args below meth c s₁ X0 hexec hbytes hml hret hlk hnm hown hh0 W hP
  obtain ⟨rfl, hV, hu, s1, rf⟩ := hP
  have v31 := hV.2.2.2
  have hi : i < V.slots.size := (Array.getElem?_eq_some_iff.mp hu).1
  have c1 : Steps p.tables e below (s₁.setTop (entryFrame m #[.ref t, .int (Int32.ofNat i)] 2)) (s₁.setTop (mkF m 0 #[.val (.ref t), .val (.int (Int32.ofNat i))] [])) := entry rfl
  have c2 : Steps p.tables e below (s₁.setTop (entryFrame m #[.ref t, .int (Int32.ofNat i)] 2)) (s₁.setTop (mkF m 3 #[.val (.ref t), .val (.int (Int32.ofNat i))] [.int (Int32.ofNat V.slots.size), .int (Int32.ofNat i)])) := c1.trans (by
    refine XS.iloadN X0.here hexec rfl (hb hbytes d0) rfl ?_
    refine XS.aloadN X0.here hexec rfl (hb hbytes d1) rfl rfl ?_
    refine X0.alen hexec (hV.mv X0.warmed.alike hh0) rfl rfl (hb hbytes d2) ?_
    exact Steps.refl _)
  obtain ⟨v3, T3, X3, E3, g3⟩ := X0.callS hexec (JO.Str_checkIndex.law l (Int32.ofNat i) (Int32.ofNat V.slots.size) fm) hown (wks W (staticW "java/lang/StringLatin1" 9 JO.Str_checkIndex.yN)) (wk W JO.Str_checkIndex.tab) (W := 0) (Nat.le_of_ble_eq_true rfl) (Nat.le_of_ble_eq_true rfl) (Nat.le_refl _) (Nat.le_refl _) (g := (mkF m 3 #[.val (.ref t), .val (.int (Int32.ofNat i))] [.int (Int32.ofNat V.slots.size), .int (Int32.ofNat i)])) rfl (by rw [hml]; rfl) c2 (argsL := [.int (Int32.ofNat i), .int (Int32.ofNat V.slots.size)]) (rest := []) rfl rfl (by show 2 * 0 + 0 ≤ _; decide) (hb hbytes d3) (⟨rfl, rf, s1.there X0.warmed.alike hh0, Int32.ofNat_not_neg (by omega), lt32 v31 hi⟩)
  obtain ⟨rfl, q3⟩ := E3
  have hh3 := q3.trans hh0
  have c4 : Steps p.tables e below (s₁.setTop (entryFrame m #[.ref t, .int (Int32.ofNat i)] 2)) (T3.setTop (mkF m 14 #[.val (.ref t), .val (.int (Int32.ofNat i))] [.int (chr8 u)])) := Steps.trans g3 (by
    refine XS.aloadN X3.here hexec rfl (hb hbytes d6) rfl rfl ?_
    refine XS.iloadN X3.here hexec rfl (hb hbytes d7) rfl ?_
    refine X3.aget hexec (hV.mv X3.warmed.alike hh3) rfl hu rfl rfl (hb hbytes d8) ?_
    refine sipushV X3.here hexec rfl 255 (hb hbytes d9) (by decide) ?_
    refine XS.iand X3.here hexec rfl (hb hbytes d12) rfl ?_
    refine i2c X3.here hexec rfl (hb hbytes d13) rfl ?_
    exact Steps.refl _)
  exact ⟨T3, some (.int (chr8 u)), _, _, _, X3, rfl, rfl, rfl, (fun h => by cases h), ⟨rfl, hh3⟩, fun fs hl => c4.trans (X3.ireturnOut hexec hret (narrow_c _) (Or.inr (Or.inr (Or.inr (Or.inl rfl)))) (hb hbytes d14) hl)⟩
end LChA
end StrChars
namespace StrChars.Road
open Jvm Sem ClassFile Op Lib Jvm.Stand Jvm.Free Jvm.Free.XT
open Jvm.Lib.Cold (StaticIs)
theorem consq {a : Array Value} {s : State} {c : Jvm.Cond} {L : List Jvm.Cond} (h0 : c.before a s = true) (h : ∀ w ∈ L, w.before a s = true) : ∀ w ∈ c :: L, w.before a s = true := fun w hw => (List.mem_cons.mp hw).elim (fun e => e ▸ h0) (h w)
/-- the words of String.length(), either coding -/
abbrev wordsLen : List Jvm.Cond := [.code Len.yN Len.yB 1 (some .int), .initialized ST, .fieldLink ST 9 ST "value" "[B", .fieldLink ST 38 ST "COMPACT_STRINGS" "Z", .fieldLink ST 15 ST "coder" "B", .code Cdr.yN Cdr.yB 1 (some .byte), .methodLink ST 335 Cdr.yN, .declares Cdr.yN, .selects ST Cdr.yN Cdr.yN, .instanceMethod Cdr.yN]
theorem tabLen_of {a : Array Value} {s : State} (h : ∀ w ∈ wordsLen, w.before a s = true) : Len.tab.before a s = true := by
  have hc : Cdr.tab.before a s = true := unparts (wk h (.code Cdr.yN Cdr.yB 1 (some .byte))) (wks h (.initialized Cdr.yN.cls :: Cdr.site))
  have q := consq hc h
  exact unparts (wk q (.code Len.yN Len.yB 1 (some .int))) (wks q (.initialized Len.yN.cls :: Len.site))
theorem movedLen {Z s : State} {a0 args : Array Value} (hZ : Z.Warmed39 s.vm) (hw : ∀ d ∈ wordsLen, d.before a0 Z = true) : ∀ d ∈ wordsLen, d.before args s = true := fun d hd => by
  have q := hw d hd
  have t : ∀ d ∈ wordsLen, d = .arrayClass .byte ∨ (d.onTables && d.keepsFace) = true := by decide +kernel
  rcases t d hd with rfl | t
  · exact RoadKit.mvA hZ q
  · exact RoadKit.mv hZ q t
/-- the bytes of the chars cs, low before high -/
def wideBytes : List Int32 → List Value
  | [] => []
  | c :: cs => .int (lo8 c) :: .int (hi8 c) :: wideBytes cs
theorem wide_lo (d : Value) : ∀ (cs : List Int32) (j : Nat), j < cs.length → (wideBytes cs).getD (2 * j) d = .int (lo8 (cs.getD j 0))
  | [], j, h => absurd h (Nat.not_lt_zero j)
  | c :: cs, 0, _ => rfl
  | c :: cs, j + 1, h => by
    have q := wide_lo d cs j (by simpa using h)
    rw [show 2 * (j + 1) = 2 * j + 1 + 1 from by omega]
    simpa [wideBytes] using q
theorem wide_hi (d : Value) : ∀ (cs : List Int32) (j : Nat), j < cs.length → (wideBytes cs).getD (2 * j + 1) d = .int (hi8 (cs.getD j 0))
  | [], j, h => absurd h (Nat.not_lt_zero j)
  | c :: cs, 0, _ => rfl
  | c :: cs, j + 1, h => by
    have q := wide_hi d cs j (by simpa using h)
    rw [show 2 * (j + 1) + 1 = 2 * j + 1 + 1 + 1 from by omega]
    simpa [wideBytes] using q
theorem low_at (d : Value) (cs : List Int32) (j : Nat) (h : j < cs.length) : (cs.map fun c => Value.int (lo8 c)).getD j d = .int (lo8 (cs.getD j 0)) := by
  simp [List.getD_eq_getElem?_getD, h]
/-- an array of N2 bytes vs codes the chars cs by the coder cd -/
def CodA (cs : List Int32) (cd N2 : Int32) (vs : List Value) : Prop := (cd = 0 ∧ N2 = Int32.ofNat cs.length ∧ vs = (cs.map fun c => Value.int (lo8 c)) ∧ ∀ c ∈ cs, ¬ 255 < c) ∨ (cd = 1 ∧ N2 = Int32.ofNat (2 * cs.length) ∧ vs = wideBytes cs ∧ ∃ c ∈ cs, 255 < c)
theorem CodA.cod {cs : List Int32} {cd N2 : Int32} {vs : List Value} {V : Cell} (h : CodA cs cd N2 vs) (hn : 2 * cs.length < 2 ^ 31) (hs : V.slots.size = N2.toNatClampNeg) (hv : RoadKit.Has V vs (.int 0)) : Cod cd cs.length (fun j => cs.getD j 0) V := by
  rcases h with ⟨rfl, rfl, rfl, h⟩ | ⟨rfl, rfl, rfl, c, hc, hw⟩
  · rw [n32 (by omega)] at hs
    exact Or.inl ⟨rfl, hs, fun j hj => ⟨by rw [hv j (by omega), low_at _ _ _ hj], by
      have e : cs.getD j 0 = cs[j] := by simp [List.getD_eq_getElem?_getD, hj]
      show ¬ 255 < cs.getD j 0
      rw [e]; exact h _ (List.getElem_mem _)⟩⟩
  · rw [n32 (by omega)] at hs
    obtain ⟨j, hj, rfl⟩ := List.getElem_of_mem hc
    exact Or.inr ⟨rfl, hs, fun j hj => ⟨by rw [hv _ (by omega), wide_lo _ _ _ hj], by rw [hv _ (by omega), wide_hi _ _ _ hj]⟩, j, hj, by
      have e : cs.getD j 0 = cs[j] := by simp [List.getD_eq_getElem?_getD, hj]
      show 255 < cs.getD j 0
      rw [e]; exact hw⟩
/-- an object of exactly java/lang/String, its two fields found: as the laws ask it -/
theorem strObj {Z U : State} {a0 : Array Value} {kI : Nat} (wi : (Jvm.Cond.instantiable ST kI).before a0 Z = true) (al : Z.vm.Alike U.vm) {x : Addr} {v0 c0 : Value} (E : RoadKit.Exa Z U.heap x ST) (V : RoadKit.Fld Z U.heap x ST "value" "[B" v0) (C : RoadKit.Fld Z U.heap x ST "coder" "B" c0) :
    ∃ (D : Cell) (fV fC : Field), Blank ST x D U ∧ Found ST "value" "[B" fV U ∧ Found ST "coder" "B" fC U ∧ D.slots[fV.slot]? = some v0 ∧ D.slots[fC.slot]? = some c0 ∧ RoadKit.slotOf Z ST "value" "[B" = fV.slot ∧ RoadKit.slotOf Z ST "coder" "B" = fC.slot := by
  obtain ⟨D, cfV, kV, iV, fV, hD, gV, stV, knV, obV, asV, slV⟩ := V
  obtain ⟨D', cfC, kC, iC, fC, hD', gC, stC, -, -, asC, slC⟩ := C
  cases hD.symm.trans hD'
  obtain ⟨D2, kD, e1, e2, e3, e4, e5⟩ := E
  cases hD.symm.trans e1
  obtain ⟨c2, k2, i1, i2, i3, -⟩ := Cond.instantiable_spec wi
  cases e2.symm.trans i1
  cases e3.symm.trans i2
  obtain ⟨kU, u1, u2⟩ := al.2.2 _ _ e3
  exact ⟨D, fV, fC, ⟨hD, ⟨knV, fun q hq => by rw [hq] at obV; cases obV⟩, by rw [al.findClass]; exact e2, kU, u1, by rw [u2]; exact i3, by rw [u2]; exact e5 i3⟩, ⟨SBG.found_only al ⟨cfV, kV, iV, gV⟩, stV⟩, ⟨SBG.found_only al ⟨cfC, kC, iC, gC⟩, stC⟩, slV, slC, by simp [RoadKit.slotOf, gV], by simp [RoadKit.slotOf, gC]⟩
theorem sta_is {Z U : State} (al : Z.vm.Alike U.vm) {C n d : String} {v : Value} (S : RoadKit.Sta Z U.heap C n d v) : StaticIs U C n d v := by
  obtain ⟨cfS, iS, kS, fS, st, cS, t1, t2, t3, t4, t5, t6, t7⟩ := S
  exact StaticIs.there (s := { Z with heap := U.heap }) ⟨cfS, iS, kS, fS, st, cS, t1, t2, t3, t4, t5, (fun q => by rw [q] at t6; cases t6), t7⟩ al rfl
/-- **length() OF SUCH A STRING** -/
theorem lenW {p : Program} {l : Launch} {e : Env} {R : Room} {s : State} {args : Array Value} {below : List Frame} {len W : Nat} {Z : State} {a0 : Array Value} {h : Heap} (hZ : Z.Warmed39 s.vm) (hw : ∀ d ∈ wordsLen, d.before a0 Z = true) {kI : Nat} (wi : (Jvm.Cond.instantiable ST kI).before a0 Z = true)
    {x t : Addr} {kb : ClassId} {cs : List Int32} {cd N2 z : Int32} {vs : List Value} (E : RoadKit.Exa Z h x ST) (V : RoadKit.Fld Z h x ST "value" "[B" (.ref t)) (C : RoadKit.Fld Z h x ST "coder" "B" (.int cd)) (K : RoadKit.Arv Z h t kb .byte N2 vs (.int 0)) (hc : CodA cs cd N2 vs) (hb : ∀ c ∈ cs, ¬ c < 0 ∧ ¬ (65535 : Int32) < c)
    (S : RoadKit.Sta Z h ST "COMPACT_STRINGS" "Z" (.int z)) (hz : ¬ z = 0) (l2 : cs.length ≤ 4000) (hfr : 2 ≤ R.frames) (hlo : W + 25 ≤ R.locals) :
    Back l R p e below s args (⟨"java/lang/String", "length", "()I"⟩ : MethodName) len W (fun P a => a = #[.ref x] ∧ P.U.heap = h ∧ P.cells + 0 ≤ R.cells ∧ P.slots + 0 ≤ R.slots)
      (fun P _ v B => ∃ L, (v = some (.int (Int32.ofNat cs.length)) ∧ L = [] ∧ B.U.heap = h) ∧ B.locs = P.locs ++ L ∧ B.cells = P.cells + 0 ∧ B.slots = P.slots + 0) := by
  obtain ⟨A, K1, K2, K3, K4, K5, K6⟩ := K
  have hcod := hc.cod (by omega) K3 K5
  intro m meth c P g ig mk a X hg hsize hdg hW hn hp'
  obtain ⟨rfl, rfl, r1, r2⟩ := hp'
  have al : Z.vm.Alike P.U.vm := hZ.alike.trans X.warmed.alike
  obtain ⟨D, fV, fC, hB, F1, F2, g1, g2, -, -⟩ := strObj wi al E V C
  have hx : Txt x t A cd cs.length (fun j => cs.getD j 0) P.U := ⟨⟨_, hB.2.2.1, D, hB.1, rfl, by cases q : D.vm <;> first | rfl | exact absurd q (hB.2.1.2 _)⟩, Has.of hB F1 g1, Has.of hB F2 g2, ⟨K1.1, State.isArrayOf_alike al K1.2.1, K1.2.2, by rcases hcod with ⟨-, q, -⟩ | ⟨-, q, -⟩ <;> omega⟩, hcod, fun j hj => by
    have e : cs.getD j 0 = cs[j] := by simp [List.getD_eq_getElem?_getD, hj]
    show ¬ cs.getD j 0 < 0 ∧ ¬ 65535 < cs.getD j 0
    rw [e]; exact hb _ (List.getElem_mem _)⟩
  obtain ⟨v, B, X', ⟨⟨hv, hh⟩, hl, hk, hs⟩, st⟩ := Len.pays x t A cd cs.length (fun j => cs.getD j 0) z (tabLen_of (movedLen hZ hw)) hfr hlo m meth c P g ig mk _ X hg hsize hdg hW hn ⟨r1, r2, rfl, hx, sta_is al S, hz⟩
  exact ⟨v, B, X', ⟨[], ⟨hv, rfl, hh⟩, hl, hk, hs⟩, st⟩
end StrChars.Road
namespace StrChars.Road
open Jvm Sem ClassFile Op Lib Jvm.Stand Jvm.Free Jvm.Free.XT
open Jvm.Lib.Cold (StaticIs)
/-- the road's facts of a String, as the laws ask it -/
theorem txt_of {Z U : State} {a0 : Array Value} {kI : Nat} (wi : (Jvm.Cond.instantiable ST kI).before a0 Z = true) (al : Z.vm.Alike U.vm) {x t : Addr} {kb : ClassId} {cs : List Int32} {cd N2 : Int32} {vs : List Value} (E : RoadKit.Exa Z U.heap x ST) (V : RoadKit.Fld Z U.heap x ST "value" "[B" (.ref t)) (C : RoadKit.Fld Z U.heap x ST "coder" "B" (.int cd)) (K : RoadKit.Arv Z U.heap t kb .byte N2 vs (.int 0)) (hc : CodA cs cd N2 vs) (hb : ∀ c ∈ cs, ¬ c < 0 ∧ ¬ (65535 : Int32) < c) (l2 : cs.length ≤ 4000) :
    ∃ A, Txt x t A cd cs.length (fun j => cs.getD j 0) U := by
  obtain ⟨A, K1, K2, K3, K4, K5, K6⟩ := K
  have hcod := hc.cod (by omega) K3 K5
  obtain ⟨D, fV, fC, hB, F1, F2, g1, g2, -, -⟩ := strObj wi al E V C
  exact ⟨A, ⟨_, hB.2.2.1, D, hB.1, rfl, by cases q : D.vm <;> first | rfl | exact absurd q (hB.2.1.2 _)⟩, Has.of hB F1 g1, Has.of hB F2 g2, ⟨K1.1, State.isArrayOf_alike al K1.2.1, K1.2.2, by rcases hcod with ⟨-, q, -⟩ | ⟨-, q, -⟩ <;> omega⟩, hcod, fun j hj => by
    have e : cs.getD j 0 = cs[j] := by simp [List.getD_eq_getElem?_getD, hj]
    show ¬ cs.getD j 0 < 0 ∧ ¬ 65535 < cs.getD j 0
    rw [e]; exact hb _ (List.getElem_mem _)⟩
end StrChars.Road
namespace StrChars
open Jvm Sem ClassFile Op Lib Jvm.Stand Jvm.Free.XT Jvm.Free.ALB Jvm.Free.JM Jvm.Free
open Jvm.Lib.Cold (StaticIs)
namespace ChN
def yN : MethodName := ⟨"java/lang/String", "charAt", "(I)C"⟩
abbrev yB : ByteArray := jdk_42_method_56_code
theorem d0 : decode yB 0 = .ok (.aload_n 0, 1) := by decide +kernel
theorem d1 : decode yB 1 = .ok (.invokevirtual 492, 3) := by decide +kernel
theorem d4 : decode yB 4 = .ok (.ifCond (.eq) 12, 3) := by decide +kernel
theorem d7 : decode yB 7 = .ok (.aload_n 0, 1) := by decide +kernel
theorem d8 : decode yB 8 = .ok (.getfield 9, 3) := by decide +kernel
theorem d11 : decode yB 11 = .ok (.iload_n 1, 1) := by decide +kernel
theorem d12 : decode yB 12 = .ok (.invokestatic 495, 3) := by decide +kernel
theorem d15 : decode yB 15 = .ok (.ireturn, 1) := by decide +kernel
def site : List Cond := [.fieldLink "java/lang/String" 9 "java/lang/String" "value" "[B", IsL.tab, LChA.tab] ++ virtW "java/lang/String" 492 "java/lang/String" IsL.yN IsL.yN ++ staticW "java/lang/String" 495 LChA.yN
def tab : Cond := tabOf yN yB 2 (some .char) site
def P (x t : Addr) (V : Cell) (n : Nat) (f : Nat → Int32) (z : Int32) (fm : Value) (i : Nat) (args : Array Value) (s : State) : Prop := args = #[.ref x, .int (Int32.ofNat i)] ∧ Txt x t V 0 n f s ∧ i < n ∧ StaticIs s "java/lang/String" "COMPACT_STRINGS" "Z" (.int z) ∧ ¬ z = 0 ∧ StaticIs s "jdk/internal/util/Preconditions" "SIOOBE_FORMATTER" "Ljava/util/function/BiFunction;" fm ∧ fm.isRef = true
def E (f : Nat → Int32) (i : Nat) (r : Option Value) (s u : State) : Prop := XT.PureE (some (.int (f i))) r s u
/-- charAt(i) of a Latin-1 String of n chars, i < n: f i -/
theorem law (l : Launch) (x t : Addr) (V : Cell) (n : Nat) (f : Nat → Int32) (z : Int32) (fm : Value) (i : Nat) : Law l yN 2 1 3 40 yB 2 (some .char) site (P x t V n f z fm i) (E f i) [] 0 0 := by
  refine Law.of_walk (plainFor_of_name (by decide +kernel)) (by decide +kernel) (by decide +kernel) (by decide) (fun _ _ h => by rw [h.1]; rfl) (fun _ U U' hal hh h => ⟨h.1, h.2.1.mv hal hh, h.2.2.1, h.2.2.2.1.there hal hh, h.2.2.2.2.1, h.2.2.2.2.2.1.there hal hh, h.2.2.2.2.2.2⟩) (fun r U U' V V' h1 hal h2 h => XT.PureE.mv r U U' V V' h1 hal h2 h) ?_
  intro p e s m args below meth c s₁ X0 hexec hbytes hml hret hlk hnm hown hh0 W hP
  obtain ⟨rfl, hx, hi, s1, hz, s3, rf⟩ := hP
  have v31 := hx.2.2.2.1.2.2.2
  have hr := hx.2.2.2.2.2 i hi
  have hx0 := hx.mv X0.warmed.alike hh0
  have c1 : Steps p.tables e below (s₁.setTop (entryFrame m #[.ref x, .int (Int32.ofNat i)] 2)) (s₁.setTop (mkF m 1 #[.val (.ref x), .val (.int (Int32.ofNat i))] [.ref x])) := Steps.trans (entry rfl) (by
    show Steps p.tables e below (s₁.setTop (mkF m 0 #[.val (.ref x), .val (.int (Int32.ofNat i))] [])) _
    refine XS.aloadN X0.here hexec rfl (hb hbytes d0) rfl rfl ?_
    exact Steps.refl _)
  obtain ⟨v2, T2, X2, E2, g2⟩ := X0.callV hexec (IsL.law l x 0 z) hown (wks W (virtW "java/lang/String" 492 "java/lang/String" IsL.yN IsL.yN)) rfl (by decide) (wk W IsL.tab) (W := 0) (Nat.le_of_ble_eq_true rfl) (Nat.le_of_ble_eq_true rfl) (Nat.le_refl _) (Nat.le_refl _) (hx0.1.fc X0.warmed.alike) hx0.1.is (g := (mkF m 1 #[.val (.ref x), .val (.int (Int32.ofNat i))] [.ref x])) rfl (by rw [hml]; rfl) c1 (argsL := []) (rest := []) rfl rfl (by show 2 * 0 + 0 ≤ _; decide) (hb hbytes d1) (⟨rfl, hx0.2.2.1, hx.2.2.2.2.1.cd, s1.there X0.warmed.alike hh0, hz⟩)
  obtain ⟨rfl, q2⟩ := E2
  have hh2 := q2.trans hh0
  have hx2 := hx.mv X2.warmed.alike hh2
  obtain ⟨-, k1, k2⟩ | ⟨k0, -⟩ := hx.2.2.2.2.1
  · have c3 : Steps p.tables e below (s₁.setTop (entryFrame m #[.ref x, .int (Int32.ofNat i)] 2)) (T2.setTop (mkF m 8 #[.val (.ref x), .val (.int (Int32.ofNat i))] [.ref x])) := Steps.trans g2 (by
      refine XS.ifNo X2.here hexec rfl (hb hbytes d4) rfl (i0_eq_f (by decide)) ?_
      refine XS.aloadN X2.here hexec rfl (hb hbytes d7) rfl rfl ?_
      exact Steps.refl _)
    obtain ⟨T4, X4, q4, st4⟩ := X2.hget hexec hown (wk W (.fieldLink "java/lang/String" 9 "java/lang/String" "value" "[B")) hx2.2.1 (g := (mkF m 8 #[.val (.ref x), .val (.int (Int32.ofNat i))] [.ref x])) rfl (rest := []) rfl (hb hbytes d8)
    have hh4 := q4.trans hh2
    have c5 : Steps p.tables e below (s₁.setTop (entryFrame m #[.ref x, .int (Int32.ofNat i)] 2)) (T4.setTop (mkF m 12 #[.val (.ref x), .val (.int (Int32.ofNat i))] [.int (Int32.ofNat i), .ref t])) := (c3.trans (st4 _ (Steps.refl _))).trans (by
      refine XS.iloadN X4.here hexec rfl (hb hbytes d11) rfl ?_
      exact Steps.refl _)
    obtain ⟨v6, T6, X6, E6, g6⟩ := X4.callS hexec (LChA.law l t V i (lo8 (f i)) fm) hown (wks W (staticW "java/lang/String" 495 LChA.yN)) (wk W LChA.tab) (W := 0) (Nat.le_of_ble_eq_true rfl) (Nat.le_of_ble_eq_true rfl) (Nat.le_refl _) (Nat.le_refl _) (g := (mkF m 12 #[.val (.ref x), .val (.int (Int32.ofNat i))] [.int (Int32.ofNat i), .ref t])) rfl (by rw [hml]; rfl) c5 (argsL := [.ref t, .int (Int32.ofNat i)]) (rest := []) rfl rfl (by show 2 * 0 + 0 ≤ _; decide) (hb hbytes d12) (⟨rfl, hx.2.2.2.1.mv X4.warmed.alike hh4, (k2 i hi).1, s3.there X4.warmed.alike hh4, rf⟩)
    obtain ⟨rfl, q6⟩ := E6
    rw [chr8_lo8 hr.1 (k2 i hi).2] at g6
    exact ⟨T6, some (.int (f i)), _, _, _, X6, rfl, rfl, rfl, (fun h => by cases h), ⟨rfl, q6.trans hh4⟩, fun fs hl => Steps.trans g6 (X6.ireturnOut hexec hret (narrow_ch hr.1 hr.2) (Or.inr (Or.inr (Or.inr (Or.inl rfl)))) (hb hbytes d15) hl)⟩
  · exact absurd k0 (by decide)
theorem pays {l : Launch} {R : Room} {p : Program} {e : Env} {below : List Frame} {s : State} {sargs : Array Value} {len W : Nat} (x t : Addr) (V : Cell) (n : Nat) (f : Nat → Int32) (z : Int32) (fm : Value) (i : Nat) (htab : tab.before sargs s = true) (hfr : 4 ≤ R.frames) (hlo : W + 53 ≤ R.locals) :
    Back l R p e below s sargs yN len W (fun A₁ a₁ => A₁.cells + 0 ≤ R.cells ∧ A₁.slots + 0 ≤ R.slots ∧ P x t V n f z fm i a₁ A₁.U) (fun A₁ _ v₁ B₁ => E f i v₁ A₁.U B₁.U ∧ B₁.locs = A₁.locs ++ [] ∧ B₁.cells = A₁.cells + 0 ∧ B₁.slots = A₁.slots + 0) :=
  (law l x t V n f z fm i).pays htab hfr (by omega)
end ChN
end StrChars
namespace StrChars.Road
open Jvm Sem ClassFile Op Lib Jvm.Stand Jvm.Free Jvm.Free.XT
open Jvm.Lib.Cold (StaticIs)
/-- the words of String.charAt(int), the Latin-1 road alone -/
abbrev wordsChN : List Jvm.Cond := [.code ChN.yN ChN.yB 2 (some .char), .initialized ST, .fieldLink ST 9 ST "value" "[B", .fieldLink ST 38 ST "COMPACT_STRINGS" "Z", .fieldLink ST 15 ST "coder" "B", .code IsL.yN IsL.yB 1 (some .boolean), .methodLink ST 492 IsL.yN, .declares IsL.yN, .selects ST IsL.yN IsL.yN, .instanceMethod IsL.yN,
  .methodLink ST 495 LChA.yN, .static LChA.yN, .code LChA.yN LChA.yB 2 (some .char), .initialized "java/lang/StringLatin1", .methodLink "java/lang/StringLatin1" 9 JO.Str_checkIndex.yN, .static JO.Str_checkIndex.yN, .code JO.Str_checkIndex.yN JO.Str_checkIndex.yB 2 none,
  .fieldLink ST 1053 "jdk/internal/util/Preconditions" "SIOOBE_FORMATTER" "Ljava/util/function/BiFunction;", .methodLink ST 1059 JC.PreCheck.yN, .static JC.PreCheck.yN, .code JC.PreCheck.yN JC.PreCheck.yB 3 (some .int), .initialized "jdk/internal/util/Preconditions"]
theorem tabChN_of {a : Array Value} {s : State} (h : ∀ w ∈ wordsChN, w.before a s = true) : ChN.tab.before a s = true := by
  have hp : JC.PreCheck.tab.before a s = true := unparts (wk h (.code JC.PreCheck.yN JC.PreCheck.yB 3 (some .int))) (wks h (.initialized JC.PreCheck.yN.cls :: JC.PreCheck.site))
  have qk := consq hp h
  have hk : JO.Str_checkIndex.tab.before a s = true := unparts (wk qk (.code JO.Str_checkIndex.yN JO.Str_checkIndex.yB 2 none)) (wks qk (.initialized JO.Str_checkIndex.yN.cls :: JO.Str_checkIndex.site))
  have ql := consq hk h
  have hl : LChA.tab.before a s = true := unparts (wk ql (.code LChA.yN LChA.yB 2 (some .char))) (wks ql (.initialized LChA.yN.cls :: LChA.site))
  have hi : IsL.tab.before a s = true := unparts (wk h (.code IsL.yN IsL.yB 1 (some .boolean))) (wks h (.initialized IsL.yN.cls :: IsL.site))
  have q := consq hi (consq hl h)
  exact unparts (wk q (.code ChN.yN ChN.yB 2 (some .char))) (wks q (.initialized ChN.yN.cls :: ChN.site))
theorem movedChN {Z s : State} {a0 args : Array Value} (hZ : Z.Warmed39 s.vm) (hw : ∀ d ∈ wordsChN, d.before a0 Z = true) : ∀ d ∈ wordsChN, d.before args s = true := fun d hd => by
  have t : ∀ d ∈ wordsChN, (d.onTables && d.keepsFace) = true := by decide +kernel
  exact RoadKit.mv hZ (hw d hd) (t d hd)
/-- **charAt(i) OF A LATIN-1 STRING**, i < n: the char -/
theorem chN {p : Program} {l : Launch} {e : Env} {R : Room} {s : State} {args : Array Value} {below : List Frame} {len W : Nat} {Z : State} {a0 : Array Value} {h : Heap} (hZ : Z.Warmed39 s.vm) (hw : ∀ d ∈ wordsChN, d.before a0 Z = true) {kI : Nat} (wi : (Jvm.Cond.instantiable ST kI).before a0 Z = true)
    {x t : Addr} {kb : ClassId} {cs : List Int32} {N2 z : Int32} {vs : List Value} {fm : Value} {i : Nat} {j : Int32} (E : RoadKit.Exa Z h x ST) (V : RoadKit.Fld Z h x ST "value" "[B" (.ref t)) (C : RoadKit.Fld Z h x ST "coder" "B" (.int 0)) (K : RoadKit.Arv Z h t kb .byte N2 vs (.int 0)) (hc : CodA cs 0 N2 vs) (hb : ∀ c ∈ cs, ¬ c < 0 ∧ ¬ (65535 : Int32) < c)
    (S : RoadKit.Sta Z h ST "COMPACT_STRINGS" "Z" (.int z)) (hz : ¬ z = 0) (F : RoadKit.Sta Z h "jdk/internal/util/Preconditions" "SIOOBE_FORMATTER" "Ljava/util/function/BiFunction;" fm) (rf : fm.isRef = true) (l2 : cs.length ≤ 4000) (hi : i < cs.length) (hj : j = Int32.ofNat i) (hfr : 4 ≤ R.frames) (hlo : W + 53 ≤ R.locals) :
    Back l R p e below s args (⟨"java/lang/String", "charAt", "(I)C"⟩ : MethodName) len W (fun P a => a = #[.ref x, .int j] ∧ P.U.heap = h ∧ P.cells + 0 ≤ R.cells ∧ P.slots + 0 ≤ R.slots)
      (fun P _ v B => ∃ L, (v = some (.int (cs.getD i 0)) ∧ L = [] ∧ B.U.heap = h) ∧ B.locs = P.locs ++ L ∧ B.cells = P.cells + 0 ∧ B.slots = P.slots + 0) := by
  subst hj
  intro m meth c P g ig mk a X hg hsize hdg hW hn hp'
  obtain ⟨rfl, rfl, r1, r2⟩ := hp'
  have al : Z.vm.Alike P.U.vm := hZ.alike.trans X.warmed.alike
  obtain ⟨A, hx⟩ := txt_of wi al E V C K hc hb l2
  obtain ⟨v, B, X', ⟨⟨hv, hh⟩, hl, hk, hs⟩, st⟩ := ChN.pays x t A cs.length (fun j => cs.getD j 0) z fm i (tabChN_of (movedChN hZ hw)) hfr hlo m meth c P g ig mk _ X hg hsize hdg hW hn ⟨r1, r2, rfl, hx, hi, sta_is al S, hz, sta_is al F, rf⟩
  exact ⟨v, B, X', ⟨[], ⟨hv, rfl, hh⟩, hl, hk, hs⟩, st⟩
/-- what backV says of its String, as the contracts of this text ask it: cs's low bytes, coder 0 -/
theorem codOf {cs : List Int32} {n : Nat} (hn : cs.length = n) (hb : ∀ c ∈ cs, ¬ 255 < c) : CodA cs 0 (Int32.ofNat n) ((cs.map lo8).map Value.int) := Or.inl ⟨rfl, by rw [hn], by simp [List.map_map, Function.comp_def], hb⟩
end StrChars.Road
end Jvm.Pilot.@@N@@

namespace Jvm.Pilot.@@N@@
open Jvm Jvm.ClassFile Sem Op Lib Jvm.Free Jvm.Stand Jvm.LawKit Jvm.RoadKit Bundle Jvm.Pilot.@@N@@.Jvm.D
namespace Ow
/-- from T with the top frame g the invocation comes to its end, and there Q holds -/
def Run (p : Program) (e : Env) (below : List Frame) (Q : Outcome → State → Prop) (T : State) (g : JFrame) : Prop :=
  ∃ s₂ o, Steps p.tables e below (T.setTop g) s₂ ∧ s₂.status = .running ∧ Ended s₂ below o ∧ Q o s₂
/-- x >>> y of a long -/
def ushJ (x : Int64) (y : Int32) : Int64 := (x.toUInt64 >>> (y &&& 0x3f).toInt64.toUInt64).toInt64
/-- what a walk that may intern keeps beside its Stand: nothing in it speaks of the state at hand but by its heap -/
def Rs (s : State) (m : MethodId) (Z : State) (EL : List (String × Nat)) (own : String) (h0 : Heap) (ws : List Addr) (vm0 : Vm) (k0 : Nat) (locs : List Loc) (h : Heap) (S : List Addr) : Prop :=
  s.Since vm0 k0 ∧ k0 ≤ h.size ∧ Z.Warmed39 vm0 ∧ vm0.findClass own = some m.cls ∧ CHr Z EL s.vm h0 vm0 h ∧ Fr Z.heap.size locs ∧ Keep h0 h ws ∧ Ext Z.heap h0 ∧ (∀ x ∈ ws, Z.heap.size ≤ x) ∧ ∀ x ∈ S, x < h.size ∧ Safe Z EL vm0 h x
/-- where a walk stands: its heap h, what it has made, and the addresses S that no constant books -/
def Wk (p : Program) (l : Launch) (e : Env) (R : Room) (s : State) (m : MethodId) (args : Array Value) (below : List Frame) (meth : Method) (c : Code) (Z : State) (EL : List (String × Nat)) (own : String) (h0 : Heap) (ws : List Addr)
    (T : State) (h : Heap) (cells slots : Nat) (S : List Addr) : Prop :=
  ∃ (vm0 : Vm) (k0 : Nat) (locs : List Loc), p.tables.exec = Jvm.exec ∧ Stand p l e R (s.setVm vm0) m args below meth c T locs cells slots ∧ T.heap = h ∧ Rs s m Z EL own h0 ws vm0 k0 locs h S
section Kit
variable {p : Program} {l : Launch} {e : Env} {R : Room} {s : State} {m : MethodId} {args : Array Value} {below : List Frame} {meth : Method} {c : Code} {Z : State} {a0 : Array Value} {EL : List (String × Nat)} {own : String} {h0 : Heap} {ws : List Addr} {T T' : State} {h h' hB : Heap} {cells slots : Nat} {S : List Addr} {Q : Outcome → State → Prop} {pc pc' pc1 pc2 : Nat} {Ls l' : Array Slot} {rest st : List Value} {vm0 : Vm} {k0 : Nat} {locs : List Loc} {g g' : JFrame}
theorem Run.to (f : ∀ t, Steps p.tables e below (T'.setTop g') t → Steps p.tables e below (T.setTop g) t) (k : Run p e below Q T' g') : Run p e below Q T g := by
  obtain ⟨a, b, q, r⟩ := k
  exact ⟨a, b, f _ q, r⟩
theorem Run.stp (f : Steps p.tables e below (T.setTop g) (T'.setTop g')) (k : Run p e below Q T' g') : Run p e below Q T g := Run.to (fun _ q => f.trans q) k
theorem Run.join {α : Type} {C : α → Prop} {F : α → JFrame} (k1 : ∀ a, C a → Run p e below Q T (F a)) (k2 : (∀ a, C a → Run p e below Q T (F a)) → Run p e below Q T g) : Run p e below Q T g := k2 k1
theorem Run.joinW (w : Wk p l e R s m args below meth c Z EL own h0 ws T h cells slots S) {α : Type} {C : α → Prop} {F : α → JFrame} (k1 : ∀ T' a, Wk p l e R s m args below meth c Z EL own h0 ws T' h cells slots S → C a → Run p e below Q T' (F a)) (k2 : (∀ T' a, Wk p l e R s m args below meth c Z EL own h0 ws T' h cells slots S → C a → Run p e below Q T' (F a)) → Run p e below Q T g) : Run p e below Q T g := k2 k1
theorem Run.cast (q : g = g') (k : Run p e below Q T g') : Run p e below Q T g := q ▸ k
theorem Rs.ch (r : Rs s m Z EL own h0 ws vm0 k0 locs h S) : CHv Z EL vm0 h := r.2.2.2.2.1.1
theorem Rs.hZ (r : Rs s m Z EL own h0 ws vm0 k0 locs h S) : Z.Warmed39 (s.setVm vm0).vm := r.2.2.1
theorem Rs.ow (r : Rs s m Z EL own h0 ws vm0 k0 locs h S) : (s.setVm vm0).vm.findClass own = some m.cls := r.2.2.2.1
theorem Rs.keep (r : Rs s m Z EL own h0 ws vm0 k0 locs h S) : Keep h0 h ws := r.2.2.2.2.2.2.1
theorem Rs.ext (r : Rs s m Z EL own h0 ws vm0 k0 locs h S) (E : Ext h h') : Rs s m Z EL own h0 ws vm0 k0 locs h' S := by
  obtain ⟨a1, a2, a3, a4, a5, a6, a7, a8, a9, a10⟩ := r
  exact ⟨a1, Nat.le_trans a2 E.1, a3, a4, a5.trans (CHr.ext E a5.1), a6, a7.ext E, a8, a9, fun x q => ⟨Nat.lt_of_lt_of_le (a10 x q).1 E.1, Safe.ext E a5.1 (a10 x q).2⟩⟩
theorem Rs.add (r : Rs s m Z EL own h0 ws vm0 k0 locs h S) (E : Ext h h') {x : Addr} (q1 : h.size ≤ x) (q2 : x < h'.size) : Rs s m Z EL own h0 ws vm0 k0 locs h' (x :: S) := by
  have r' := r.ext E
  obtain ⟨a1, a2, a3, a4, a5, a6, a7, a8, a9, a10⟩ := r'
  refine ⟨a1, a2, a3, a4, a5, a6, a7, a8, a9, fun y q => ?_⟩
  rcases List.mem_cons.mp q with rfl | q
  · exact ⟨q2, Safe.ext E r.ch (Safe.new q1)⟩
  · exact a10 y q
theorem Rs.wr (r : Rs s m Z EL own h0 ws vm0 k0 locs h S) {a : Addr} {sl : Nat} {v : Value} (W : Wr h h' a sl v) (Sa : Safe Z EL vm0 h a) (q : a ∈ ws ∨ h0.size ≤ a) : Rs s m Z EL own h0 ws vm0 k0 (locs ++ [⟨a, sl⟩]) h' S := by
  obtain ⟨a1, a2, a3, a4, a5, a6, a7, a8, a9, a10⟩ := r
  have hsz := W.size
  refine ⟨a1, by rw [hsz]; exact a2, a3, a4, a5.trans (CHr.wr W Sa a5.1), a6.app fun y hy => ?_, a7.wr W q, a8, a9, fun x z => ⟨by rw [hsz]; exact (a10 x z).1, Safe.wr W Sa a5.1 (a10 x z).2⟩⟩
  rw [List.mem_singleton.mp hy]
  rcases q with q | q
  · exact a9 _ q
  · exact Nat.le_trans a8.1 q
theorem Rs.sub (r : Rs s m Z EL own h0 ws vm0 k0 locs h S) {S' : List Addr} (q : ∀ x ∈ S', x ∈ S) : Rs s m Z EL own h0 ws vm0 k0 locs h S' := by
  obtain ⟨a1, a2, a3, a4, a5, a6, a7, a8, a9, a10⟩ := r
  exact ⟨a1, a2, a3, a4, a5, a6, a7, a8, a9, fun x z => a10 x (q x z)⟩
theorem Ext.rf (h : Heap) : Ext h h := ⟨Nat.le_refl _, fun _ _ q => q⟩
theorem Ext.tr {h2 : Heap} (E : Ext h h') (F : Ext h' h2) : Ext h h2 := ⟨Nat.le_trans E.1 F.1, fun x c q => F.2 x c (E.2 x c q)⟩
theorem Ext.wr' (E : Ext hB h) {a : Addr} {sl : Nat} {v : Value} (W : Wr h h' a sl v) (q : hB.size ≤ a) : Ext hB h' := by
  have hsz := W.size
  refine ⟨by rw [hsz]; exact E.1, fun x c z => ?_⟩
  obtain ⟨c0, -, -, -, rfl⟩ := W
  have hx := (Array.getElem?_eq_some_iff.mp z).1
  rw [Array.getElem?_setIfInBounds_ne (by omega)]
  exact E.2 x c z
theorem Ext.kp (E : Ext hB h) {vs : List Addr} (K : Keep h h' vs) (q : ∀ x ∈ vs, hB.size ≤ x) : Ext hB h' := by
  refine ⟨Nat.le_trans E.1 K.1, fun x c z => K.2.1 x c (E.2 x c z) fun hm => ?_⟩
  have hx := (Array.getElem?_eq_some_iff.mp z).1
  have := q x hm
  omega
theorem Keep.ext0 (K : Keep h h' []) : Ext h h' := ⟨K.1, fun x c q => K.2.1 x c q nin0⟩
theorem Wk.at (w : Wk p l e R s m args below meth c Z EL own h0 ws T h cells slots S) : At T m c below := by obtain ⟨_, _, _, -, X, -⟩ := w; exact X.here
theorem Wk.hx (w : Wk p l e R s m args below meth c Z EL own h0 ws T h cells slots S) : p.tables.exec = Jvm.exec := by obtain ⟨_, _, _, q, -⟩ := w; exact q
theorem Wk.keep (w : Wk p l e R s m args below meth c Z EL own h0 ws T h cells slots S) : Keep h0 h ws := by obtain ⟨_, _, _, -, -, -, r⟩ := w; exact r.keep
theorem Rs.old (r : Rs s m Z EL own h0 ws vm0 k0 locs h S) : Ext Z.heap h := Ext.kp r.2.2.2.2.2.2.2.1 r.keep r.2.2.2.2.2.2.2.2.1
theorem Wk.old (w : Wk p l e R s m args below meth c Z EL own h0 ws T h cells slots S) : Ext Z.heap h := by obtain ⟨_, _, _, -, -, -, r⟩ := w; exact r.old
theorem Wk.mono (w : Wk p l e R s m args below meth c Z EL own h0 ws T h cells slots S) {cells' slots' : Nat} (q1 : cells ≤ cells') (q2 : slots ≤ slots') : Wk p l e R s m args below meth c Z EL own h0 ws T h cells' slots' S := by
  obtain ⟨vm0, k0, locs, hx, X, r⟩ := w
  exact ⟨vm0, k0, locs, hx, X.mono q1 q2, r⟩
theorem Wk.sub (w : Wk p l e R s m args below meth c Z EL own h0 ws T h cells slots S) {S' : List Addr} (q : ∀ x ∈ S', x ∈ S) : Wk p l e R s m args below meth c Z EL own h0 ws T h cells slots S' := by
  obtain ⟨vm0, k0, locs, hx, X, eT, r⟩ := w
  exact ⟨vm0, k0, locs, hx, X, eT, r.sub q⟩
theorem s_iadd (w : Wk p l e R s m args below meth c Z EL own h0 ws T h cells slots S) {x y : Int32} (hd : decode c.code pc = .ok (.iadd, 1)) (hp : pc + 1 = pc') (k : Run p e below Q T (mkF m pc' Ls (.int (x + y) :: rest))) : Run p e below Q T (mkF m pc Ls (.int y :: .int x :: rest)) := by
  subst hp; exact Run.to (fun _ q => XS.iadd w.at w.hx rfl hd rfl q) k
theorem s_isub (w : Wk p l e R s m args below meth c Z EL own h0 ws T h cells slots S) {x y : Int32} (hd : decode c.code pc = .ok (.isub, 1)) (hp : pc + 1 = pc') (k : Run p e below Q T (mkF m pc' Ls (.int (x - y) :: rest))) : Run p e below Q T (mkF m pc Ls (.int y :: .int x :: rest)) := by
  subst hp; exact Run.to (fun _ q => XS.isub w.at w.hx rfl hd rfl q) k
theorem s_iand (w : Wk p l e R s m args below meth c Z EL own h0 ws T h cells slots S) {x y : Int32} (hd : decode c.code pc = .ok (.iand, 1)) (hp : pc + 1 = pc') (k : Run p e below Q T (mkF m pc' Ls (.int (x &&& y) :: rest))) : Run p e below Q T (mkF m pc Ls (.int y :: .int x :: rest)) := by
  subst hp; exact Run.to (fun _ q => XS.iand w.at w.hx rfl hd rfl q) k
theorem s_imul (w : Wk p l e R s m args below meth c Z EL own h0 ws T h cells slots S) {x y : Int32} (hd : decode c.code pc = .ok (.imul, 1)) (hp : pc + 1 = pc') (k : Run p e below Q T (mkF m pc' Ls (.int (x * y) :: rest))) : Run p e below Q T (mkF m pc Ls (.int y :: .int x :: rest)) := by
  subst hp; exact Run.to (fun _ q => XS.imul w.at w.hx rfl hd rfl q) k
theorem s_ixor (w : Wk p l e R s m args below meth c Z EL own h0 ws T h cells slots S) {x y : Int32} (hd : decode c.code pc = .ok (.ixor, 1)) (hp : pc + 1 = pc') (k : Run p e below Q T (mkF m pc' Ls (.int (x ^^^ y) :: rest))) : Run p e below Q T (mkF m pc Ls (.int y :: .int x :: rest)) := by
  subst hp; exact Run.to (fun _ q => XT.ixor w.at w.hx rfl hd rfl q) k
theorem s_ior (w : Wk p l e R s m args below meth c Z EL own h0 ws T h cells slots S) {x y : Int32} (hd : decode c.code pc = .ok (.ior, 1)) (hp : pc + 1 = pc') (k : Run p e below Q T (mkF m pc' Ls (.int (x ||| y) :: rest))) : Run p e below Q T (mkF m pc Ls (.int y :: .int x :: rest)) := by
  subst hp; exact Run.to (fun _ q => XT.ior w.at w.hx rfl hd rfl q) k
theorem s_ishl (w : Wk p l e R s m args below meth c Z EL own h0 ws T h cells slots S) {x y : Int32} (hd : decode c.code pc = .ok (.ishl, 1)) (hp : pc + 1 = pc') (k : Run p e below Q T (mkF m pc' Ls (.int (x <<< (y &&& 31)) :: rest))) : Run p e below Q T (mkF m pc Ls (.int y :: .int x :: rest)) := by
  subst hp; exact Run.to (fun _ q => XT.ishl w.at w.hx rfl hd rfl q) k
theorem s_ishr (w : Wk p l e R s m args below meth c Z EL own h0 ws T h cells slots S) {x y : Int32} (hd : decode c.code pc = .ok (.ishr, 1)) (hp : pc + 1 = pc') (k : Run p e below Q T (mkF m pc' Ls (.int (x >>> (y &&& 31)) :: rest))) : Run p e below Q T (mkF m pc Ls (.int y :: .int x :: rest)) := by
  subst hp; exact Run.to (fun _ q => XT.ishr w.at w.hx rfl hd rfl q) k
theorem s_iushr (w : Wk p l e R s m args below meth c Z EL own h0 ws T h cells slots S) {x y : Int32} (hd : decode c.code pc = .ok (.iushr, 1)) (hp : pc + 1 = pc') (k : Run p e below Q T (mkF m pc' Ls (.int (XT.ushr x y) :: rest))) : Run p e below Q T (mkF m pc Ls (.int y :: .int x :: rest)) := by
  subst hp; exact Run.to (fun _ q => XT.iushr w.at w.hx rfl hd rfl q) k
theorem s_irem (w : Wk p l e R s m args below meth c Z EL own h0 ws T h cells slots S) {x y : Int32} (hd : decode c.code pc = .ok (.irem, 1)) (hy : y ≠ 0) (hp : pc + 1 = pc') (k : Run p e below Q T (mkF m pc' Ls (.int (x % y) :: rest))) : Run p e below Q T (mkF m pc Ls (.int y :: .int x :: rest)) := by
  subst hp; obtain ⟨_, _, _, hx, X, -⟩ := w; exact Run.to (fun _ q => iremM X hx rfl hd rfl hy q) k
theorem s_idiv (w : Wk p l e R s m args below meth c Z EL own h0 ws T h cells slots S) {x y : Int32} (hd : decode c.code pc = .ok (.idiv, 1)) (hy : y ≠ 0) (hp : pc + 1 = pc') (k : Run p e below Q T (mkF m pc' Ls (.int (x / y) :: rest))) : Run p e below Q T (mkF m pc Ls (.int y :: .int x :: rest)) := by
  subst hp; exact Run.to (fun _ q => XS.idiv w.at w.hx rfl hd rfl hy q) k
theorem s_ladd (w : Wk p l e R s m args below meth c Z EL own h0 ws T h cells slots S) {x y : Int64} (hd : decode c.code pc = .ok (.ladd, 1)) (hp : pc + 1 = pc') (k : Run p e below Q T (mkF m pc' Ls (.long (x + y) :: rest))) : Run p e below Q T (mkF m pc Ls (.long y :: .long x :: rest)) := by
  subst hp; exact Run.to (fun _ q => XT.ladd w.at w.hx rfl hd rfl q) k
theorem s_lsub (w : Wk p l e R s m args below meth c Z EL own h0 ws T h cells slots S) {x y : Int64} (hd : decode c.code pc = .ok (.lsub, 1)) (hp : pc + 1 = pc') (k : Run p e below Q T (mkF m pc' Ls (.long (x - y) :: rest))) : Run p e below Q T (mkF m pc Ls (.long y :: .long x :: rest)) := by
  subst hp; exact Run.to (fun _ q => XT.lsub w.at w.hx rfl hd rfl q) k
theorem s_lmul (w : Wk p l e R s m args below meth c Z EL own h0 ws T h cells slots S) {x y : Int64} (hd : decode c.code pc = .ok (.lmul, 1)) (hp : pc + 1 = pc') (k : Run p e below Q T (mkF m pc' Ls (.long (x * y) :: rest))) : Run p e below Q T (mkF m pc Ls (.long y :: .long x :: rest)) := by
  subst hp; exact Run.to (fun _ q => XT.lmul w.at w.hx rfl hd rfl q) k
theorem s_land (w : Wk p l e R s m args below meth c Z EL own h0 ws T h cells slots S) {x y : Int64} (hd : decode c.code pc = .ok (.land, 1)) (hp : pc + 1 = pc') (k : Run p e below Q T (mkF m pc' Ls (.long (x &&& y) :: rest))) : Run p e below Q T (mkF m pc Ls (.long y :: .long x :: rest)) := by
  subst hp; exact Run.to (fun _ q => XT.land w.at w.hx rfl hd rfl q) k
theorem s_lor (w : Wk p l e R s m args below meth c Z EL own h0 ws T h cells slots S) {x y : Int64} (hd : decode c.code pc = .ok (.lor, 1)) (hp : pc + 1 = pc') (k : Run p e below Q T (mkF m pc' Ls (.long (x ||| y) :: rest))) : Run p e below Q T (mkF m pc Ls (.long y :: .long x :: rest)) := by
  subst hp; exact Run.to (fun _ q => XT.lor w.at w.hx rfl hd rfl q) k
theorem s_lxor (w : Wk p l e R s m args below meth c Z EL own h0 ws T h cells slots S) {x y : Int64} (hd : decode c.code pc = .ok (.lxor, 1)) (hp : pc + 1 = pc') (k : Run p e below Q T (mkF m pc' Ls (.long (x ^^^ y) :: rest))) : Run p e below Q T (mkF m pc Ls (.long y :: .long x :: rest)) := by
  subst hp; exact Run.to (fun _ q => XT.lxor w.at w.hx rfl hd rfl q) k
theorem s_lshl (w : Wk p l e R s m args below meth c Z EL own h0 ws T h cells slots S) {x : Int64} {y : Int32} (hd : decode c.code pc = .ok (.lshl, 1)) (hp : pc + 1 = pc') (k : Run p e below Q T (mkF m pc' Ls (.long (x <<< (y &&& 0x3f).toInt64) :: rest))) : Run p e below Q T (mkF m pc Ls (.int y :: .long x :: rest)) := by
  subst hp; exact Run.to (fun _ q => XS.lshl w.at w.hx rfl hd rfl q) k
theorem s_lshr (w : Wk p l e R s m args below meth c Z EL own h0 ws T h cells slots S) {x : Int64} {y : Int32} (hd : decode c.code pc = .ok (.lshr, 1)) (hp : pc + 1 = pc') (k : Run p e below Q T (mkF m pc' Ls (.long (x >>> (y &&& 0x3f).toInt64) :: rest))) : Run p e below Q T (mkF m pc Ls (.int y :: .long x :: rest)) := by
  subst hp; exact Run.to (fun _ q => XS.lshr w.at w.hx rfl hd rfl q) k
theorem s_lushr (w : Wk p l e R s m args below meth c Z EL own h0 ws T h cells slots S) {x : Int64} {y : Int32} (hd : decode c.code pc = .ok (.lushr, 1)) (hp : pc + 1 = pc') (k : Run p e below Q T (mkF m pc' Ls (.long (ushJ x y) :: rest))) : Run p e below Q T (mkF m pc Ls (.int y :: .long x :: rest)) := by
  subst hp; exact Run.to (fun _ q => XS.lushr w.at w.hx rfl hd rfl q) k
theorem s_lcmp (w : Wk p l e R s m args below meth c Z EL own h0 ws T h cells slots S) {x y : Int64} (hd : decode c.code pc = .ok (.lcmp, 1)) (hp : pc + 1 = pc') (k : Run p e below Q T (mkF m pc' Ls (.int (XT.cmpL x y) :: rest))) : Run p e below Q T (mkF m pc Ls (.long y :: .long x :: rest)) := by
  subst hp; exact Run.to (fun _ q => XT.lcmp w.at w.hx rfl hd rfl q) k
theorem s_ineg (w : Wk p l e R s m args below meth c Z EL own h0 ws T h cells slots S) {x : Int32} (hd : decode c.code pc = .ok (.ineg, 1)) (hp : pc + 1 = pc') (k : Run p e below Q T (mkF m pc' Ls (.int (-x) :: rest))) : Run p e below Q T (mkF m pc Ls (.int x :: rest)) := by
  subst hp; exact Run.to (fun _ q => XS.ineg w.at w.hx rfl hd rfl q) k
theorem s_i2l (w : Wk p l e R s m args below meth c Z EL own h0 ws T h cells slots S) {x : Int32} (hd : decode c.code pc = .ok (.i2l, 1)) (hp : pc + 1 = pc') (k : Run p e below Q T (mkF m pc' Ls (.long x.toInt64 :: rest))) : Run p e below Q T (mkF m pc Ls (.int x :: rest)) := by
  subst hp; exact Run.to (fun _ q => XT.i2l w.at w.hx rfl hd rfl q) k
theorem s_l2i (w : Wk p l e R s m args below meth c Z EL own h0 ws T h cells slots S) {x : Int64} (hd : decode c.code pc = .ok (.l2i, 1)) (hp : pc + 1 = pc') (k : Run p e below Q T (mkF m pc' Ls (.int x.toInt32 :: rest))) : Run p e below Q T (mkF m pc Ls (.long x :: rest)) := by
  subst hp; exact Run.to (fun _ q => XT.l2i w.at w.hx rfl hd rfl q) k
theorem s_i2b (w : Wk p l e R s m args below meth c Z EL own h0 ws T h cells slots S) {x : Int32} (hd : decode c.code pc = .ok (.i2b, 1)) (hp : pc + 1 = pc') (k : Run p e below Q T (mkF m pc' Ls (.int x.toInt8.toInt32 :: rest))) : Run p e below Q T (mkF m pc Ls (.int x :: rest)) := by
  subst hp; exact Run.to (fun _ q => XT.i2b w.at w.hx rfl hd rfl q) k
theorem s_i2s (w : Wk p l e R s m args below meth c Z EL own h0 ws T h cells slots S) {x : Int32} (hd : decode c.code pc = .ok (.i2s, 1)) (hp : pc + 1 = pc') (k : Run p e below Q T (mkF m pc' Ls (.int x.toInt16.toInt32 :: rest))) : Run p e below Q T (mkF m pc Ls (.int x :: rest)) := by
  subst hp; exact Run.to (fun _ q => XT.i2s w.at w.hx rfl hd rfl q) k
theorem s_i2c (w : Wk p l e R s m args below meth c Z EL own h0 ws T h cells slots S) {x : Int32} (hd : decode c.code pc = .ok (.i2c, 1)) (hp : pc + 1 = pc') (k : Run p e below Q T (mkF m pc' Ls (.int (nar .char x) :: rest))) : Run p e below Q T (mkF m pc Ls (.int x :: rest)) := by
  subst hp; exact Run.to (fun _ q => XT.i2c w.at w.hx rfl hd rfl q) k
theorem s_dup (w : Wk p l e R s m args below meth c Z EL own h0 ws T h cells slots S) {x : Value} (hd : decode c.code pc = .ok (.dup, 1)) (hc : x.category = 1) (hp : pc + 1 = pc') (k : Run p e below Q T (mkF m pc' Ls (x :: x :: rest))) : Run p e below Q T (mkF m pc Ls (x :: rest)) := by
  subst hp; exact Run.to (fun _ q => XS.dup w.at w.hx rfl hd rfl hc q) k
theorem s_pop (w : Wk p l e R s m args below meth c Z EL own h0 ws T h cells slots S) {x : Value} (hd : decode c.code pc = .ok (.pop, 1)) (hc : x.category = 1) (hp : pc + 1 = pc') (k : Run p e below Q T (mkF m pc' Ls rest)) : Run p e below Q T (mkF m pc Ls (x :: rest)) := by
  subst hp; exact Run.to (fun _ q => XT.pop w.at w.hx rfl hd rfl hc q) k
theorem s_dup_x1 (w : Wk p l e R s m args below meth c Z EL own h0 ws T h cells slots S) {x y : Value} (hd : decode c.code pc = .ok (.dup_x1, 1)) (hc : x.category = 1) (hc' : y.category = 1) (hp : pc + 1 = pc') (k : Run p e below Q T (mkF m pc' Ls (x :: y :: x :: rest))) : Run p e below Q T (mkF m pc Ls (x :: y :: rest)) := by
  subst hp; exact Run.to (fun _ q => XT.dupX1 w.at w.hx rfl hd rfl hc hc' q) k
theorem s_dup2 (w : Wk p l e R s m args below meth c Z EL own h0 ws T h cells slots S) {x y : Value} (hd : decode c.code pc = .ok (.dup2, 1)) (hc : x.category = 1) (hc' : y.category = 1) (hp : pc + 1 = pc') (k : Run p e below Q T (mkF m pc' Ls (x :: y :: x :: y :: rest))) : Run p e below Q T (mkF m pc Ls (x :: y :: rest)) := by
  subst hp; exact Run.to (fun _ q => XT.dup2 w.at w.hx rfl hd rfl hc hc' q) k
theorem s_iconst (w : Wk p l e R s m args below meth c Z EL own h0 ws T h cells slots S) {i : Int} {v : Int32} (hd : decode c.code pc = .ok (.iconst i, 1)) (hv : Int32.ofInt i = v) (hp : pc + 1 = pc') (k : Run p e below Q T (mkF m pc' Ls (.int v :: st))) : Run p e below Q T (mkF m pc Ls st) := by
  subst hp hv; exact Run.to (fun _ q => XS.iconst w.at w.hx rfl hd q) k
theorem s_bipush (w : Wk p l e R s m args below meth c Z EL own h0 ws T h cells slots S) {i : Int} {v : Int32} (hd : decode c.code pc = .ok (.bipush i, 2)) (hv : (Int8.ofInt i).toInt32 = v) (hp : pc + 2 = pc') (k : Run p e below Q T (mkF m pc' Ls (.int v :: st))) : Run p e below Q T (mkF m pc Ls st) := by
  subst hp hv; exact Run.to (fun _ q => XS.bipush w.at w.hx rfl hd q) k
theorem s_sipush (w : Wk p l e R s m args below meth c Z EL own h0 ws T h cells slots S) {i : Int} {v : Int32} (hd : decode c.code pc = .ok (.sipush i, 3)) (hv : (Int16.ofInt i).toInt32 = v) (hp : pc + 3 = pc') (k : Run p e below Q T (mkF m pc' Ls (.int v :: st))) : Run p e below Q T (mkF m pc Ls st) := by
  subst hp hv; exact Run.to (fun _ q => XS.sipush w.at w.hx rfl hd q) k
theorem s_lconst (w : Wk p l e R s m args below meth c Z EL own h0 ws T h cells slots S) {i : Fin 2} {v : Int64} (hd : decode c.code pc = .ok (.lconst i, 1)) (hv : Int64.ofNat i = v) (hp : pc + 1 = pc') (k : Run p e below Q T (mkF m pc' Ls (.long v :: st))) : Run p e below Q T (mkF m pc Ls st) := by
  subst hp hv; exact Run.to (fun _ q => XT.lconst w.at w.hx rfl hd q) k
theorem s_anull (w : Wk p l e R s m args below meth c Z EL own h0 ws T h cells slots S) (hd : decode c.code pc = .ok (.aconst_null, 1)) (hp : pc + 1 = pc') (k : Run p e below Q T (mkF m pc' Ls (.null :: st))) : Run p e below Q T (mkF m pc Ls st) := by
  subst hp; exact Run.to (fun _ q => XS.aconstNull w.at w.hx rfl hd q) k
theorem s_iload (w : Wk p l e R s m args below meth c Z EL own h0 ws T h cells slots S) {i : Nat} {v : Int32} (hd : decode c.code pc = .ok (.iload i, 2)) (hl : Ls[i]? = some (.val (.int v))) (hp : pc + 2 = pc') (k : Run p e below Q T (mkF m pc' Ls (.int v :: st))) : Run p e below Q T (mkF m pc Ls st) := by
  subst hp; exact Run.to (fun _ q => XS.iload w.at w.hx rfl hd hl q) k
theorem s_iload_n (w : Wk p l e R s m args below meth c Z EL own h0 ws T h cells slots S) {i : Fin 4} {v : Int32} (hd : decode c.code pc = .ok (.iload_n i, 1)) (hl : Ls[i.val]? = some (.val (.int v))) (hp : pc + 1 = pc') (k : Run p e below Q T (mkF m pc' Ls (.int v :: st))) : Run p e below Q T (mkF m pc Ls st) := by
  subst hp; exact Run.to (fun _ q => XS.iloadN w.at w.hx rfl hd hl q) k
theorem s_lload (w : Wk p l e R s m args below meth c Z EL own h0 ws T h cells slots S) {i : Nat} {v : Int64} (hd : decode c.code pc = .ok (.lload i, 2)) (hl : Ls[i]? = some (.val (.long v))) (hp : pc + 2 = pc') (k : Run p e below Q T (mkF m pc' Ls (.long v :: st))) : Run p e below Q T (mkF m pc Ls st) := by
  subst hp; exact Run.to (fun _ q => XT.lload w.at w.hx rfl hd hl q) k
theorem s_lload_n (w : Wk p l e R s m args below meth c Z EL own h0 ws T h cells slots S) {i : Fin 4} {v : Int64} (hd : decode c.code pc = .ok (.lload_n i, 1)) (hl : Ls[i.val]? = some (.val (.long v))) (hp : pc + 1 = pc') (k : Run p e below Q T (mkF m pc' Ls (.long v :: st))) : Run p e below Q T (mkF m pc Ls st) := by
  subst hp; exact Run.to (fun _ q => XT.lloadN w.at w.hx rfl hd hl q) k
theorem s_aload (w : Wk p l e R s m args below meth c Z EL own h0 ws T h cells slots S) {i : Nat} {v : Value} (hd : decode c.code pc = .ok (.aload i, 2)) (hl : Ls[i]? = some (.val v)) (hv : v.isRef = true) (hp : pc + 2 = pc') (k : Run p e below Q T (mkF m pc' Ls (v :: st))) : Run p e below Q T (mkF m pc Ls st) := by
  subst hp; exact Run.to (fun _ q => XS.aload w.at w.hx rfl hd hl hv q) k
theorem s_aload_n (w : Wk p l e R s m args below meth c Z EL own h0 ws T h cells slots S) {i : Fin 4} {v : Value} (hd : decode c.code pc = .ok (.aload_n i, 1)) (hl : Ls[i.val]? = some (.val v)) (hv : v.isRef = true) (hp : pc + 1 = pc') (k : Run p e below Q T (mkF m pc' Ls (v :: st))) : Run p e below Q T (mkF m pc Ls st) := by
  subst hp; exact Run.to (fun _ q => XS.aloadN w.at w.hx rfl hd hl hv q) k
theorem s_istore (w : Wk p l e R s m args below meth c Z EL own h0 ws T h cells slots S) {i : Nat} {v : Int32} (l' : Array Slot) (hd : decode c.code pc = .ok (.istore i, 2)) (hl : storeLocals Ls i (.int v) = some l') (hp : pc + 2 = pc') (k : Run p e below Q T (mkF m pc' l' st)) : Run p e below Q T (mkF m pc Ls (.int v :: st)) := by
  subst hp; exact Run.to (fun _ q => XS.istore w.at w.hx rfl hd rfl hl q) k
theorem s_istore_n (w : Wk p l e R s m args below meth c Z EL own h0 ws T h cells slots S) {i : Fin 4} {v : Int32} (l' : Array Slot) (hd : decode c.code pc = .ok (.istore_n i, 1)) (hl : storeLocals Ls i.val (.int v) = some l') (hp : pc + 1 = pc') (k : Run p e below Q T (mkF m pc' l' st)) : Run p e below Q T (mkF m pc Ls (.int v :: st)) := by
  subst hp; exact Run.to (fun _ q => XS.istoreN w.at w.hx rfl hd rfl hl q) k
theorem s_lstore (w : Wk p l e R s m args below meth c Z EL own h0 ws T h cells slots S) {i : Nat} {v : Int64} (l' : Array Slot) (hd : decode c.code pc = .ok (.lstore i, 2)) (hl : storeLocals Ls i (.long v) = some l') (hp : pc + 2 = pc') (k : Run p e below Q T (mkF m pc' l' st)) : Run p e below Q T (mkF m pc Ls (.long v :: st)) := by
  subst hp; exact Run.to (fun _ q => XT.lstore w.at w.hx rfl hd rfl hl q) k
theorem s_lstore_n (w : Wk p l e R s m args below meth c Z EL own h0 ws T h cells slots S) {i : Fin 4} {v : Int64} (l' : Array Slot) (hd : decode c.code pc = .ok (.lstore_n i, 1)) (hl : storeLocals Ls i.val (.long v) = some l') (hp : pc + 1 = pc') (k : Run p e below Q T (mkF m pc' l' st)) : Run p e below Q T (mkF m pc Ls (.long v :: st)) := by
  subst hp; exact Run.to (fun _ q => XT.lstoreN w.at w.hx rfl hd rfl hl q) k
theorem s_astore (w : Wk p l e R s m args below meth c Z EL own h0 ws T h cells slots S) {i : Nat} {v : Value} (l' : Array Slot) (hd : decode c.code pc = .ok (.astore i, 2)) (hv : v.isRef = true) (hl : storeLocals Ls i v = some l') (hp : pc + 2 = pc') (k : Run p e below Q T (mkF m pc' l' st)) : Run p e below Q T (mkF m pc Ls (v :: st)) := by
  subst hp; exact Run.to (fun _ q => XS.astore w.at w.hx rfl hd rfl hv hl q) k
theorem s_astore_n (w : Wk p l e R s m args below meth c Z EL own h0 ws T h cells slots S) {i : Fin 4} {v : Value} (l' : Array Slot) (hd : decode c.code pc = .ok (.astore_n i, 1)) (hv : v.isRef = true) (hl : storeLocals Ls i.val v = some l') (hp : pc + 1 = pc') (k : Run p e below Q T (mkF m pc' l' st)) : Run p e below Q T (mkF m pc Ls (v :: st)) := by
  subst hp; exact Run.to (fun _ q => XS.astoreN w.at w.hx rfl hd rfl hv hl q) k
theorem s_iinc (w : Wk p l e R s m args below meth c Z EL own h0 ws T h cells slots S) {i : Nat} {cst : Int} {x v : Int32} (l' : Array Slot) (hd : decode c.code pc = .ok (.iinc i cst, 3)) (hv : Int32.ofInt cst = v) (hl : Ls[i]? = some (.val (.int x))) (hl' : storeLocals Ls i (.int (x + v)) = some l') (hp : pc + 3 = pc') (k : Run p e below Q T (mkF m pc' l' st)) : Run p e below Q T (mkF m pc Ls st) := by
  subst hp; exact Run.to (fun _ q => XT.iincV w.at w.hx rfl v hd hv hl hl' q) k
theorem s_goto (w : Wk p l e R s m args below meth c Z EL own h0 ws T h cells slots S) {o : Int} (hd : decode c.code pc = .ok (.goto o, 3)) (ho : 0 ≤ (pc : Int) + o) (hp : ((pc : Int) + o).toNat = pc') (k : Run p e below Q T (mkF m pc' Ls st)) : Run p e below Q T (mkF m pc Ls st) := by
  exact Run.to (fun _ q => XS.goto w.at w.hx rfl (pc0 := pc) rfl hd ho hp q) k
theorem s_icmp_eq (w : Wk p l e R s m args below meth c Z EL own h0 ws T h cells slots S) {x y : Int32} {o : Int} (hd : decode c.code pc = .ok (.if_icmp .eq o, 3)) (ho : 0 ≤ (pc : Int) + o) (h1 : pc + 3 = pc1) (h2 : ((pc : Int) + o).toNat = pc2) (k1 : ¬ (x = y) → Run p e below Q T (mkF m pc1 Ls rest)) (k2 : x = y → Run p e below Q T (mkF m pc2 Ls rest)) : Run p e below Q T (mkF m pc Ls (.int y :: .int x :: rest)) := by
  subst h1
  by_cases cq : x = y
  · exact Run.to (fun _ q => XS.icmpYes w.at w.hx rfl (pc0 := pc) rfl hd rfl (XT.ii_eq_t cq) ho h2 q) (k2 cq)
  · exact Run.to (fun _ q => XS.icmpNo w.at w.hx rfl hd rfl (XT.ii_eq_f cq) q) (k1 cq)
theorem s_icmp_ne (w : Wk p l e R s m args below meth c Z EL own h0 ws T h cells slots S) {x y : Int32} {o : Int} (hd : decode c.code pc = .ok (.if_icmp .ne o, 3)) (ho : 0 ≤ (pc : Int) + o) (h1 : pc + 3 = pc1) (h2 : ((pc : Int) + o).toNat = pc2) (k1 : x = y → Run p e below Q T (mkF m pc1 Ls rest)) (k2 : ¬ (x = y) → Run p e below Q T (mkF m pc2 Ls rest)) : Run p e below Q T (mkF m pc Ls (.int y :: .int x :: rest)) := by
  subst h1
  by_cases cq : x = y
  · exact Run.to (fun _ q => XS.icmpNo w.at w.hx rfl hd rfl (XT.ii_ne_f cq) q) (k1 cq)
  · exact Run.to (fun _ q => XS.icmpYes w.at w.hx rfl (pc0 := pc) rfl hd rfl (XT.ii_ne_t cq) ho h2 q) (k2 cq)
theorem s_icmp_lt (w : Wk p l e R s m args below meth c Z EL own h0 ws T h cells slots S) {x y : Int32} {o : Int} (hd : decode c.code pc = .ok (.if_icmp .lt o, 3)) (ho : 0 ≤ (pc : Int) + o) (h1 : pc + 3 = pc1) (h2 : ((pc : Int) + o).toNat = pc2) (k1 : ¬ (x < y) → Run p e below Q T (mkF m pc1 Ls rest)) (k2 : x < y → Run p e below Q T (mkF m pc2 Ls rest)) : Run p e below Q T (mkF m pc Ls (.int y :: .int x :: rest)) := by
  subst h1
  by_cases cq : x < y
  · exact Run.to (fun _ q => XS.icmpYes w.at w.hx rfl (pc0 := pc) rfl hd rfl (XT.ii_lt_t cq) ho h2 q) (k2 cq)
  · exact Run.to (fun _ q => XS.icmpNo w.at w.hx rfl hd rfl (XT.ii_lt_f cq) q) (k1 cq)
theorem s_icmp_ge (w : Wk p l e R s m args below meth c Z EL own h0 ws T h cells slots S) {x y : Int32} {o : Int} (hd : decode c.code pc = .ok (.if_icmp .ge o, 3)) (ho : 0 ≤ (pc : Int) + o) (h1 : pc + 3 = pc1) (h2 : ((pc : Int) + o).toNat = pc2) (k1 : x < y → Run p e below Q T (mkF m pc1 Ls rest)) (k2 : ¬ (x < y) → Run p e below Q T (mkF m pc2 Ls rest)) : Run p e below Q T (mkF m pc Ls (.int y :: .int x :: rest)) := by
  subst h1
  by_cases cq : x < y
  · exact Run.to (fun _ q => XS.icmpNo w.at w.hx rfl hd rfl (XT.ii_ge_f cq) q) (k1 cq)
  · exact Run.to (fun _ q => XS.icmpYes w.at w.hx rfl (pc0 := pc) rfl hd rfl (XT.ii_ge_t cq) ho h2 q) (k2 cq)
theorem s_icmp_gt (w : Wk p l e R s m args below meth c Z EL own h0 ws T h cells slots S) {x y : Int32} {o : Int} (hd : decode c.code pc = .ok (.if_icmp .gt o, 3)) (ho : 0 ≤ (pc : Int) + o) (h1 : pc + 3 = pc1) (h2 : ((pc : Int) + o).toNat = pc2) (k1 : ¬ (y < x) → Run p e below Q T (mkF m pc1 Ls rest)) (k2 : y < x → Run p e below Q T (mkF m pc2 Ls rest)) : Run p e below Q T (mkF m pc Ls (.int y :: .int x :: rest)) := by
  subst h1
  by_cases cq : y < x
  · exact Run.to (fun _ q => XS.icmpYes w.at w.hx rfl (pc0 := pc) rfl hd rfl (XT.ii_gt_t cq) ho h2 q) (k2 cq)
  · exact Run.to (fun _ q => XS.icmpNo w.at w.hx rfl hd rfl (XT.ii_gt_f cq) q) (k1 cq)
theorem s_icmp_le (w : Wk p l e R s m args below meth c Z EL own h0 ws T h cells slots S) {x y : Int32} {o : Int} (hd : decode c.code pc = .ok (.if_icmp .le o, 3)) (ho : 0 ≤ (pc : Int) + o) (h1 : pc + 3 = pc1) (h2 : ((pc : Int) + o).toNat = pc2) (k1 : y < x → Run p e below Q T (mkF m pc1 Ls rest)) (k2 : ¬ (y < x) → Run p e below Q T (mkF m pc2 Ls rest)) : Run p e below Q T (mkF m pc Ls (.int y :: .int x :: rest)) := by
  subst h1
  by_cases cq : y < x
  · exact Run.to (fun _ q => XS.icmpNo w.at w.hx rfl hd rfl (XT.ii_le_f cq) q) (k1 cq)
  · exact Run.to (fun _ q => XS.icmpYes w.at w.hx rfl (pc0 := pc) rfl hd rfl (XT.ii_le_t cq) ho h2 q) (k2 cq)
theorem s_if_eq (w : Wk p l e R s m args below meth c Z EL own h0 ws T h cells slots S) {x : Int32} {o : Int} (hd : decode c.code pc = .ok (.ifCond .eq o, 3)) (ho : 0 ≤ (pc : Int) + o) (h1 : pc + 3 = pc1) (h2 : ((pc : Int) + o).toNat = pc2) (k1 : ¬ (x = 0) → Run p e below Q T (mkF m pc1 Ls rest)) (k2 : x = 0 → Run p e below Q T (mkF m pc2 Ls rest)) : Run p e below Q T (mkF m pc Ls (.int x :: rest)) := by
  subst h1
  by_cases cq : x = 0
  · exact Run.to (fun _ q => XS.ifYes w.at w.hx rfl (pc0 := pc) rfl hd rfl (XT.i0_eq_t cq) ho h2 q) (k2 cq)
  · exact Run.to (fun _ q => XS.ifNo w.at w.hx rfl hd rfl (XT.i0_eq_f cq) q) (k1 cq)
theorem s_if_ne (w : Wk p l e R s m args below meth c Z EL own h0 ws T h cells slots S) {x : Int32} {o : Int} (hd : decode c.code pc = .ok (.ifCond .ne o, 3)) (ho : 0 ≤ (pc : Int) + o) (h1 : pc + 3 = pc1) (h2 : ((pc : Int) + o).toNat = pc2) (k1 : x = 0 → Run p e below Q T (mkF m pc1 Ls rest)) (k2 : ¬ (x = 0) → Run p e below Q T (mkF m pc2 Ls rest)) : Run p e below Q T (mkF m pc Ls (.int x :: rest)) := by
  subst h1
  by_cases cq : x = 0
  · exact Run.to (fun _ q => XS.ifNo w.at w.hx rfl hd rfl (XT.i0_ne_f cq) q) (k1 cq)
  · exact Run.to (fun _ q => XS.ifYes w.at w.hx rfl (pc0 := pc) rfl hd rfl (XT.i0_ne_t cq) ho h2 q) (k2 cq)
theorem s_if_lt (w : Wk p l e R s m args below meth c Z EL own h0 ws T h cells slots S) {x : Int32} {o : Int} (hd : decode c.code pc = .ok (.ifCond .lt o, 3)) (ho : 0 ≤ (pc : Int) + o) (h1 : pc + 3 = pc1) (h2 : ((pc : Int) + o).toNat = pc2) (k1 : ¬ (x < 0) → Run p e below Q T (mkF m pc1 Ls rest)) (k2 : x < 0 → Run p e below Q T (mkF m pc2 Ls rest)) : Run p e below Q T (mkF m pc Ls (.int x :: rest)) := by
  subst h1
  by_cases cq : x < 0
  · exact Run.to (fun _ q => XS.ifYes w.at w.hx rfl (pc0 := pc) rfl hd rfl (XT.i0_lt_t cq) ho h2 q) (k2 cq)
  · exact Run.to (fun _ q => XS.ifNo w.at w.hx rfl hd rfl (XT.i0_lt_f cq) q) (k1 cq)
theorem s_if_ge (w : Wk p l e R s m args below meth c Z EL own h0 ws T h cells slots S) {x : Int32} {o : Int} (hd : decode c.code pc = .ok (.ifCond .ge o, 3)) (ho : 0 ≤ (pc : Int) + o) (h1 : pc + 3 = pc1) (h2 : ((pc : Int) + o).toNat = pc2) (k1 : x < 0 → Run p e below Q T (mkF m pc1 Ls rest)) (k2 : ¬ (x < 0) → Run p e below Q T (mkF m pc2 Ls rest)) : Run p e below Q T (mkF m pc Ls (.int x :: rest)) := by
  subst h1
  by_cases cq : x < 0
  · exact Run.to (fun _ q => XS.ifNo w.at w.hx rfl hd rfl (XT.i0_ge_f cq) q) (k1 cq)
  · exact Run.to (fun _ q => XS.ifYes w.at w.hx rfl (pc0 := pc) rfl hd rfl (XT.i0_ge_t cq) ho h2 q) (k2 cq)
theorem s_if_gt (w : Wk p l e R s m args below meth c Z EL own h0 ws T h cells slots S) {x : Int32} {o : Int} (hd : decode c.code pc = .ok (.ifCond .gt o, 3)) (ho : 0 ≤ (pc : Int) + o) (h1 : pc + 3 = pc1) (h2 : ((pc : Int) + o).toNat = pc2) (k1 : ¬ (0 < x) → Run p e below Q T (mkF m pc1 Ls rest)) (k2 : 0 < x → Run p e below Q T (mkF m pc2 Ls rest)) : Run p e below Q T (mkF m pc Ls (.int x :: rest)) := by
  subst h1
  by_cases cq : 0 < x
  · exact Run.to (fun _ q => XS.ifYes w.at w.hx rfl (pc0 := pc) rfl hd rfl (XT.i0_gt_t cq) ho h2 q) (k2 cq)
  · exact Run.to (fun _ q => XS.ifNo w.at w.hx rfl hd rfl (XT.i0_gt_f cq) q) (k1 cq)
theorem s_if_le (w : Wk p l e R s m args below meth c Z EL own h0 ws T h cells slots S) {x : Int32} {o : Int} (hd : decode c.code pc = .ok (.ifCond .le o, 3)) (ho : 0 ≤ (pc : Int) + o) (h1 : pc + 3 = pc1) (h2 : ((pc : Int) + o).toNat = pc2) (k1 : 0 < x → Run p e below Q T (mkF m pc1 Ls rest)) (k2 : ¬ (0 < x) → Run p e below Q T (mkF m pc2 Ls rest)) : Run p e below Q T (mkF m pc Ls (.int x :: rest)) := by
  subst h1
  by_cases cq : 0 < x
  · exact Run.to (fun _ q => XS.ifNo w.at w.hx rfl hd rfl (XT.i0_le_f cq) q) (k1 cq)
  · exact Run.to (fun _ q => XS.ifYes w.at w.hx rfl (pc0 := pc) rfl hd rfl (XT.i0_le_t cq) ho h2 q) (k2 cq)
theorem s_lif_eq (w : Wk p l e R s m args below meth c Z EL own h0 ws T h cells slots S) {x y : Int64} {o : Int} (hd : decode c.code pc = .ok (.ifCond .eq o, 3)) (ho : 0 ≤ (pc : Int) + o) (h1 : pc + 3 = pc1) (h2 : ((pc : Int) + o).toNat = pc2) (k1 : ¬ (x = y) → Run p e below Q T (mkF m pc1 Ls rest)) (k2 : x = y → Run p e below Q T (mkF m pc2 Ls rest)) : Run p e below Q T (mkF m pc Ls (.int (XT.cmpL x y) :: rest)) := by
  subst h1
  by_cases cq : x = y
  · exact Run.to (fun _ q => XS.ifYes w.at w.hx rfl (pc0 := pc) rfl hd rfl (XT.ll_eq_t cq) ho h2 q) (k2 cq)
  · exact Run.to (fun _ q => XS.ifNo w.at w.hx rfl hd rfl (XT.ll_eq_f cq) q) (k1 cq)
theorem s_lif_ne (w : Wk p l e R s m args below meth c Z EL own h0 ws T h cells slots S) {x y : Int64} {o : Int} (hd : decode c.code pc = .ok (.ifCond .ne o, 3)) (ho : 0 ≤ (pc : Int) + o) (h1 : pc + 3 = pc1) (h2 : ((pc : Int) + o).toNat = pc2) (k1 : x = y → Run p e below Q T (mkF m pc1 Ls rest)) (k2 : ¬ (x = y) → Run p e below Q T (mkF m pc2 Ls rest)) : Run p e below Q T (mkF m pc Ls (.int (XT.cmpL x y) :: rest)) := by
  subst h1
  by_cases cq : x = y
  · exact Run.to (fun _ q => XS.ifNo w.at w.hx rfl hd rfl (XT.ll_ne_f cq) q) (k1 cq)
  · exact Run.to (fun _ q => XS.ifYes w.at w.hx rfl (pc0 := pc) rfl hd rfl (XT.ll_ne_t cq) ho h2 q) (k2 cq)
theorem s_lif_lt (w : Wk p l e R s m args below meth c Z EL own h0 ws T h cells slots S) {x y : Int64} {o : Int} (hd : decode c.code pc = .ok (.ifCond .lt o, 3)) (ho : 0 ≤ (pc : Int) + o) (h1 : pc + 3 = pc1) (h2 : ((pc : Int) + o).toNat = pc2) (k1 : ¬ (x < y) → Run p e below Q T (mkF m pc1 Ls rest)) (k2 : x < y → Run p e below Q T (mkF m pc2 Ls rest)) : Run p e below Q T (mkF m pc Ls (.int (XT.cmpL x y) :: rest)) := by
  subst h1
  by_cases cq : x < y
  · exact Run.to (fun _ q => XS.ifYes w.at w.hx rfl (pc0 := pc) rfl hd rfl (XT.ll_lt_t cq) ho h2 q) (k2 cq)
  · exact Run.to (fun _ q => XS.ifNo w.at w.hx rfl hd rfl (XT.ll_lt_f cq) q) (k1 cq)
theorem s_lif_ge (w : Wk p l e R s m args below meth c Z EL own h0 ws T h cells slots S) {x y : Int64} {o : Int} (hd : decode c.code pc = .ok (.ifCond .ge o, 3)) (ho : 0 ≤ (pc : Int) + o) (h1 : pc + 3 = pc1) (h2 : ((pc : Int) + o).toNat = pc2) (k1 : x < y → Run p e below Q T (mkF m pc1 Ls rest)) (k2 : ¬ (x < y) → Run p e below Q T (mkF m pc2 Ls rest)) : Run p e below Q T (mkF m pc Ls (.int (XT.cmpL x y) :: rest)) := by
  subst h1
  by_cases cq : x < y
  · exact Run.to (fun _ q => XS.ifNo w.at w.hx rfl hd rfl (XT.ll_ge_f cq) q) (k1 cq)
  · exact Run.to (fun _ q => XS.ifYes w.at w.hx rfl (pc0 := pc) rfl hd rfl (XT.ll_ge_t cq) ho h2 q) (k2 cq)
theorem s_lif_gt (w : Wk p l e R s m args below meth c Z EL own h0 ws T h cells slots S) {x y : Int64} {o : Int} (hd : decode c.code pc = .ok (.ifCond .gt o, 3)) (ho : 0 ≤ (pc : Int) + o) (h1 : pc + 3 = pc1) (h2 : ((pc : Int) + o).toNat = pc2) (k1 : ¬ (y < x) → Run p e below Q T (mkF m pc1 Ls rest)) (k2 : y < x → Run p e below Q T (mkF m pc2 Ls rest)) : Run p e below Q T (mkF m pc Ls (.int (XT.cmpL x y) :: rest)) := by
  subst h1
  by_cases cq : y < x
  · exact Run.to (fun _ q => XS.ifYes w.at w.hx rfl (pc0 := pc) rfl hd rfl (XT.ll_gt_t cq) ho h2 q) (k2 cq)
  · exact Run.to (fun _ q => XS.ifNo w.at w.hx rfl hd rfl (XT.ll_gt_f cq) q) (k1 cq)
theorem s_lif_le (w : Wk p l e R s m args below meth c Z EL own h0 ws T h cells slots S) {x y : Int64} {o : Int} (hd : decode c.code pc = .ok (.ifCond .le o, 3)) (ho : 0 ≤ (pc : Int) + o) (h1 : pc + 3 = pc1) (h2 : ((pc : Int) + o).toNat = pc2) (k1 : y < x → Run p e below Q T (mkF m pc1 Ls rest)) (k2 : ¬ (y < x) → Run p e below Q T (mkF m pc2 Ls rest)) : Run p e below Q T (mkF m pc Ls (.int (XT.cmpL x y) :: rest)) := by
  subst h1
  by_cases cq : y < x
  · exact Run.to (fun _ q => XS.ifNo w.at w.hx rfl hd rfl (XT.ll_le_f cq) q) (k1 cq)
  · exact Run.to (fun _ q => XS.ifYes w.at w.hx rfl (pc0 := pc) rfl hd rfl (XT.ll_le_t cq) ho h2 q) (k2 cq)
theorem s_acmp_eq (w : Wk p l e R s m args below meth c Z EL own h0 ws T h cells slots S) {x y : Value} {o : Int} (hd : decode c.code pc = .ok (.if_acmp .eq o, 3)) (hx' : x.isRef = true) (hy' : y.isRef = true) (ho : 0 ≤ (pc : Int) + o) (h1 : pc + 3 = pc1) (h2 : ((pc : Int) + o).toNat = pc2) (k1 : ¬ (x = y) → Run p e below Q T (mkF m pc1 Ls rest)) (k2 : x = y → Run p e below Q T (mkF m pc2 Ls rest)) : Run p e below Q T (mkF m pc Ls (y :: x :: rest)) := by
  subst h1
  by_cases cq : x = y
  · exact Run.to (fun _ q => XT.acmpYes w.at w.hx rfl (pc0 := pc) rfl hd rfl hx' hy' (XT.aa_eq_t cq) ho h2 q) (k2 cq)
  · exact Run.to (fun _ q => XT.acmpNo w.at w.hx rfl hd rfl hx' hy' (XT.aa_eq_f cq) q) (k1 cq)
theorem s_acmp_ne (w : Wk p l e R s m args below meth c Z EL own h0 ws T h cells slots S) {x y : Value} {o : Int} (hd : decode c.code pc = .ok (.if_acmp .ne o, 3)) (hx' : x.isRef = true) (hy' : y.isRef = true) (ho : 0 ≤ (pc : Int) + o) (h1 : pc + 3 = pc1) (h2 : ((pc : Int) + o).toNat = pc2) (k1 : x = y → Run p e below Q T (mkF m pc1 Ls rest)) (k2 : ¬ (x = y) → Run p e below Q T (mkF m pc2 Ls rest)) : Run p e below Q T (mkF m pc Ls (y :: x :: rest)) := by
  subst h1
  by_cases cq : x = y
  · exact Run.to (fun _ q => XT.acmpNo w.at w.hx rfl hd rfl hx' hy' (XT.aa_ne_f cq) q) (k1 cq)
  · exact Run.to (fun _ q => XT.acmpYes w.at w.hx rfl (pc0 := pc) rfl hd rfl hx' hy' (XT.aa_ne_t cq) ho h2 q) (k2 cq)
theorem s_ifnull_no (w : Wk p l e R s m args below meth c Z EL own h0 ws T h cells slots S) {b : Addr} {o : Int} (hd : decode c.code pc = .ok (.ifnull o, 3)) (hp : pc + 3 = pc') (k : Run p e below Q T (mkF m pc' Ls rest)) : Run p e below Q T (mkF m pc Ls (.ref b :: rest)) := by
  subst hp; exact Run.to (fun _ q => XS.ifnullNo w.at w.hx rfl hd rfl q) k
theorem s_ifnull_yes (w : Wk p l e R s m args below meth c Z EL own h0 ws T h cells slots S) {o : Int} (hd : decode c.code pc = .ok (.ifnull o, 3)) (ho : 0 ≤ (pc : Int) + o) (hp : ((pc : Int) + o).toNat = pc') (k : Run p e below Q T (mkF m pc' Ls rest)) : Run p e below Q T (mkF m pc Ls (.null :: rest)) :=
  Run.to (fun _ q => XS.ifnullYes w.at w.hx rfl (pc0 := pc) rfl hd rfl ho hp q) k
theorem s_ifnonnull_yes (w : Wk p l e R s m args below meth c Z EL own h0 ws T h cells slots S) {b : Addr} {o : Int} (hd : decode c.code pc = .ok (.ifnonnull o, 3)) (ho : 0 ≤ (pc : Int) + o) (hp : ((pc : Int) + o).toNat = pc') (k : Run p e below Q T (mkF m pc' Ls rest)) : Run p e below Q T (mkF m pc Ls (.ref b :: rest)) :=
  Run.to (fun _ q => XT.ifnonnullYes w.at w.hx rfl (pc0 := pc) rfl hd rfl ho hp q) k
theorem s_ifnonnull_no (w : Wk p l e R s m args below meth c Z EL own h0 ws T h cells slots S) {o : Int} (hd : decode c.code pc = .ok (.ifnonnull o, 3)) (hp : pc + 3 = pc') (k : Run p e below Q T (mkF m pc' Ls rest)) : Run p e below Q T (mkF m pc Ls (.null :: rest)) := by
  subst hp; exact Run.to (fun _ q => XT.ifnonnullNo w.at w.hx rfl hd rfl q) k


/-! steps that read the tables or the heap -/
theorem w_getF (w : Wk p l e R s m args below meth c Z EL own h0 ws T h cells slots S) {R0 O n d : String} {index : Nat} (wl : (Jvm.Cond.fieldLink own index R0 n d).before a0 Z = true) (via : Via Z R0 O n d) {a : Addr} {v : Value} (F : Fld Z h a O n d v) (hd : decode c.code pc = .ok (.getfield index, 3)) (hp : pc + 3 = pc')
    (k : ∀ T', Wk p l e R s m args below meth c Z EL own h0 ws T' h cells slots S → Run p e below Q T' (mkF m pc' Ls (v :: rest))) : Run p e below Q T (mkF m pc Ls (.ref a :: rest)) := by
  obtain ⟨vm0, k0, locs, hx, X, eT, r⟩ := w
  obtain ⟨T', X', e', stp⟩ := getF X hx r.hZ (host := "") r.ow (Or.inl wl) via eT F (g := mkF m pc Ls (.ref a :: rest)) rfl rfl hd
  subst hp
  exact Run.to stp (k T' ⟨vm0, k0, locs, hx, X', e', r⟩)
theorem w_getS (w : Wk p l e R s m args below meth c Z EL own h0 ws T h cells slots S) {R0 O n d : String} {index : Nat} (wl : (Jvm.Cond.fieldLink own index R0 n d).before a0 Z = true) (via : Via Z R0 O n d) {v : Value} (F : Sta Z h O n d v) (hd : decode c.code pc = .ok (.getstatic index, 3)) (hp : pc + 3 = pc')
    (k : ∀ T', Wk p l e R s m args below meth c Z EL own h0 ws T' h cells slots S → Run p e below Q T' (mkF m pc' Ls (v :: st))) : Run p e below Q T (mkF m pc Ls st) := by
  obtain ⟨vm0, k0, locs, hx, X, eT, r⟩ := w
  obtain ⟨T', X', e', stp⟩ := getS (host := "") X hx r.hZ r.ow wl via eT F (g := mkF m pc Ls st) rfl hd
  subst hp
  exact Run.to stp (k T' ⟨vm0, k0, locs, hx, X', e', r⟩)
theorem w_cast (w : Wk p l e R s m args below meth c Z EL own h0 ws T h cells slots S) {K : String} {index : Nat} (wl : (Jvm.Cond.classLink own index K).before a0 Z = true) {a : Addr} (F : Ins Z h a K true) (hd : decode c.code pc = .ok (.checkcast index, 3)) (hp : pc + 3 = pc')
    (k : ∀ T', Wk p l e R s m args below meth c Z EL own h0 ws T' h cells slots S → Run p e below Q T' (mkF m pc' Ls (.ref a :: rest))) : Run p e below Q T (mkF m pc Ls (.ref a :: rest)) := by
  obtain ⟨vm0, k0, locs, hx, X, eT, r⟩ := w
  obtain ⟨T', X', e', stp⟩ := castY X hx r.hZ r.ow wl eT F (g := mkF m pc Ls (.ref a :: rest)) rfl rfl hd
  subst hp
  exact Run.to stp (k T' ⟨vm0, k0, locs, hx, X', e', r⟩)
theorem w_inst (w : Wk p l e R s m args below meth c Z EL own h0 ws T h cells slots S) {K : String} {index : Nat} (wl : (Jvm.Cond.classLink own index K).before a0 Z = true) {a : Addr} (F : Ins Z h a K true) (hd : decode c.code pc = .ok (.instanceof index, 3)) (hp : pc + 3 = pc')
    (k : ∀ T', Wk p l e R s m args below meth c Z EL own h0 ws T' h cells slots S → Run p e below Q T' (mkF m pc' Ls (.int 1 :: rest))) : Run p e below Q T (mkF m pc Ls (.ref a :: rest)) := by
  obtain ⟨vm0, k0, locs, hx, X, eT, r⟩ := w
  obtain ⟨T', X', e', stp⟩ := instY X hx r.hZ r.ow wl eT F (g := mkF m pc Ls (.ref a :: rest)) rfl rfl hd
  subst hp
  exact Run.to stp (k T' ⟨vm0, k0, locs, hx, X', e', r⟩)
theorem w_instNo (w : Wk p l e R s m args below meth c Z EL own h0 ws T h cells slots S) {K C : String} {index : Nat} (wl : (Jvm.Cond.classLink own index K).before a0 Z = true) {a : Addr} (E : Exa Z h a C) (F : ∃ c t, Z.vm.findClass C = some c ∧ Z.vm.findClass K = some t ∧ Z.vm.assignable c t = false) (hd : decode c.code pc = .ok (.instanceof index, 3)) (hp : pc + 3 = pc')
    (k : ∀ T', Wk p l e R s m args below meth c Z EL own h0 ws T' h cells slots S → Run p e below Q T' (mkF m pc' Ls (.int 0 :: rest))) : Run p e below Q T (mkF m pc Ls (.ref a :: rest)) := by
  obtain ⟨vm0, k0, locs, hx, X, eT, r⟩ := w
  obtain ⟨T', X', e', stp⟩ := instNo X hx r.hZ r.ow wl eT E F (g := mkF m pc Ls (.ref a :: rest)) rfl rfl hd
  subst hp
  exact Run.to stp (k T' ⟨vm0, k0, locs, hx, X', e', r⟩)
theorem w_instNull (w : Wk p l e R s m args below meth c Z EL own h0 ws T h cells slots S) {index : Nat} (hd : decode c.code pc = .ok (.instanceof index, 3)) (hp : pc + 3 = pc') (k : Run p e below Q T (mkF m pc' Ls (.int 0 :: rest))) : Run p e below Q T (mkF m pc Ls (.null :: rest)) := by
  obtain ⟨vm0, k0, locs, hx, X, eT, r⟩ := w
  subst hp
  exact Run.to (X.instanceofNull hx (g := mkF m pc Ls (.null :: rest)) rfl rfl hd) k
theorem w_castNull (w : Wk p l e R s m args below meth c Z EL own h0 ws T h cells slots S) {index : Nat} (hd : decode c.code pc = .ok (.checkcast index, 3)) (hp : pc + 3 = pc') (k : Run p e below Q T (mkF m pc' Ls (.null :: rest))) : Run p e below Q T (mkF m pc Ls (.null :: rest)) := by
  obtain ⟨vm0, k0, locs, hx, X, eT, r⟩ := w
  subst hp
  exact Run.to (X.checkcastNull hx (g := mkF m pc Ls (.null :: rest)) rfl rfl hd) k
theorem w_new (w : Wk p l e R s m args below meth c Z EL own h0 ws T h cells slots S) {C : String} {index n : Nat} (wl : (Jvm.Cond.classLink own index C).before a0 Z = true) (wi : (Jvm.Cond.instantiable C n).before a0 Z = true) (wz : (Jvm.Cond.initialized C).before a0 Z = true) (hd : decode c.code pc = .ok (.new index, 3)) (hp : pc + 3 = pc') (hc : cells + 1 ≤ R.cells) (hl : slots + n ≤ R.slots)
    (k : ∀ T' h' x, Wk p l e R s m args below meth c Z EL own h0 ws T' h' (cells + 1) (slots + n) (x :: S) → Ext h h' → h.size ≤ x → h0.size ≤ x → Exa Z h' x C → (∀ {O nm d : String} {ty : FieldType}, Laid Z a0 C O nm d → parseFieldDescriptor d = some ty → Fld Z h' x O nm d (defaultValue ty)) → Run p e below Q T' (mkF m pc' Ls (.ref x :: st))) : Run p e below Q T (mkF m pc Ls st) := by
  obtain ⟨vm0, k0, locs, hx, X, eT, r⟩ := w
  obtain ⟨T', h', X', e', E, A, D, -, stp⟩ := newO X hx r.hZ r.ow wl wi wz eT (g := mkF m pc Ls st) rfl hd hc hl
  subst hp
  exact Run.to stp (k T' h' h.size ⟨vm0, k0, locs, hx, X', e', r.add E (Nat.le_refl _) A.lt⟩ E (Nat.le_refl _) r.keep.1 A D)
/-- a new array of a primitive kind: its n places hold their first value -/
theorem w_newP (w : Wk p l e R s m args below meth c Z EL own h0 ws T h cells slots S) {aty : ArrayType} {ty : FieldType} {z : Int32} {n : Nat} {dv : Value} (wl : (Jvm.Cond.arrayClass ty).before a0 Z = true) (hty : newarray.typeOf aty = ty) (hdv : defaultValue ty = dv) (hd : decode c.code pc = .ok (.newarray aty, 2)) (hz : ¬ z < 0) (hn : z.toNatClampNeg ≤ n) (hb : n * 8 ≤ 536870912) (hp : pc + 2 = pc') (hc : cells + 1 ≤ R.cells) (hl : slots + n ≤ R.slots)
    (k : ∀ T' h' x ka, Wk p l e R s m args below meth c Z EL own h0 ws T' h' (cells + 1) (slots + n) (x :: S) → Ext h h' → h.size ≤ x → h0.size ≤ x → Arv Z h' x ka ty z (List.replicate n dv) dv → Run p e below Q T' (mkF m pc' Ls (.ref x :: rest))) : Run p e below Q T (mkF m pc Ls (.int z :: rest)) := by
  obtain ⟨vm0, k0, locs, hx, X, eT, r⟩ := w
  subst hty hdv hp
  obtain ⟨T', h', kA, X', e', E, A, stp⟩ := newP X hx r.hZ wl eT (g := mkF m pc Ls (.int z :: rest)) rfl hd rfl hz hn hb hc hl
  have V := (Arv.new A hz).pad (pad_rep [] _ n)
  exact Run.to stp (k T' h' h.size kA ⟨vm0, k0, locs, hx, X', e', r.add E (Nat.le_refl _) A.lt⟩ E (Nat.le_refl _) r.keep.1 V)
theorem w_stC (w : Wk p l e R s m args below meth c Z EL own h0 ws T h cells slots S) {a : Addr} {ka : ClassId} {z j x x' : Int32} {vs : List Value} {dv : Value} (V : Arv Z h a ka .char z vs dv) {i : Nat} (hj : ¬ j < 0) (hi : j.toNatClampNeg = i) (hiz : i < z.toNatClampNeg) (hiv : i < vs.length) (hx' : nar .char x = x') (hd : decode c.code pc = .ok (.castore, 1)) (q : a ∈ ws ∨ h0.size ≤ a) (hp : pc + 1 = pc')
    (k : ∀ T' h', Wk p l e R s m args below meth c Z EL own h0 ws T' h' cells slots S → Wr h h' a i (.int x') → Arv Z h' a ka .char z (vs.set i (.int x')) dv → Run p e below Q T' (mkF m pc' Ls rest)) : Run p e below Q T (mkF m pc Ls (.int x :: .int j :: .ref a :: rest)) := by
  obtain ⟨vm0, k0, locs, hx, X, eT, r⟩ := w
  obtain ⟨cl, A, q1, q2, q3, q4, q5⟩ := V
  have hin : ¬ (j < 0 ∨ cl.slots.size ≤ j.toNatClampNeg) := by rw [q2, hi]; rintro (z | z); exact hj z; omega
  obtain ⟨T', h', X', e', Wq, stp⟩ := stC X hx r.hZ eT A hin (g := mkF m pc Ls (.int x :: .int j :: .ref a :: rest)) rfl rfl hd
  subst hp hx'
  have V' := Arv.set A q1 q2 q3 q4 q5 (fits_nar_char x) Wq i hi hiv
  rw [hi] at Wq
  have r' := r.wr Wq (Safe.arr r.hZ.alike A (by decide)) q
  rw [hi] at X'
  exact Run.to stp (k T' h' ⟨vm0, k0, _, hx, X', e', r'⟩ Wq V')
theorem w_stB (w : Wk p l e R s m args below meth c Z EL own h0 ws T h cells slots S) {a : Addr} {ka : ClassId} {z j x x' : Int32} {vs : List Value} {dv : Value} (V : Arv Z h a ka .byte z vs dv) {i : Nat} (hj : ¬ j < 0) (hi : j.toNatClampNeg = i) (hiz : i < z.toNatClampNeg) (hiv : i < vs.length) (hx' : nar .byte x = x') (hd : decode c.code pc = .ok (.bastore, 1)) (q : a ∈ ws ∨ h0.size ≤ a) (hS : a ∈ S) (hp : pc + 1 = pc')
    (k : ∀ T' h', Wk p l e R s m args below meth c Z EL own h0 ws T' h' cells slots S → Wr h h' a i (.int x') → Arv Z h' a ka .byte z (vs.set i (.int x')) dv → Run p e below Q T' (mkF m pc' Ls rest)) : Run p e below Q T (mkF m pc Ls (.int x :: .int j :: .ref a :: rest)) := by
  obtain ⟨vm0, k0, locs, hx, X, eT, r⟩ := w
  obtain ⟨cl, A, q1, q2, q3, q4, q5⟩ := V
  have hin : ¬ (j < 0 ∨ cl.slots.size ≤ j.toNatClampNeg) := by rw [q2, hi]; rintro (z | z); exact hj z; omega
  obtain ⟨T', h', X', e', Wq, stp⟩ := stB X hx r.hZ eT A hin (g := mkF m pc Ls (.int x :: .int j :: .ref a :: rest)) rfl rfl hd
  subst hp hx'
  have V' := Arv.set A q1 q2 q3 q4 q5 (fits_nar_byte x) Wq i hi hiv
  rw [hi] at Wq
  have r' := r.wr Wq (r.2.2.2.2.2.2.2.2.2 a hS).2 q
  rw [hi] at X'
  exact Run.to stp (k T' h' ⟨vm0, k0, _, hx, X', e', r'⟩ Wq V')
theorem w_len (w : Wk p l e R s m args below meth c Z EL own h0 ws T h cells slots S) {a : Addr} {ka : ClassId} {ty : FieldType} {z : Int32} {vs : List Value} {dv : Value} (V : Arv Z h a ka ty z vs dv) (hd : decode c.code pc = .ok (.arraylength, 1)) (hp : pc + 1 = pc')
    (k : Run p e below Q T (mkF m pc' Ls (.int z :: rest))) : Run p e below Q T (mkF m pc Ls (.ref a :: rest)) := by
  obtain ⟨vm0, k0, locs, hx, X, eT, r⟩ := w
  obtain ⟨cl, A, q1, q2, q3, q4, q5⟩ := V
  subst hp
  rw [← len_of q2 q3] at k
  exact Run.to (X.arraylength hx (by rw [eT]; exact A.1) (State.isArrayOf_alike r.hZ.alike A.2.1) (g := mkF m pc Ls (.ref a :: rest)) rfl rfl hd) k
theorem w_ldC (w : Wk p l e R s m args below meth c Z EL own h0 ws T h cells slots S) {a : Addr} {ka : ClassId} {z j : Int32} {vs : List Value} {dv v : Value} (V : Arv Z h a ka .char z vs dv) {i : Nat} (hj : ¬ j < 0) (hi : j.toNatClampNeg = i) (hiz : i < z.toNatClampNeg) (hv : vs.getD i dv = v) (hd : decode c.code pc = .ok (.caload, 1)) (hp : pc + 1 = pc')
    (k : Run p e below Q T (mkF m pc' Ls (v :: rest))) : Run p e below Q T (mkF m pc Ls (.int j :: .ref a :: rest)) := by
  obtain ⟨vm0, k0, locs, hx, X, eT, r⟩ := w
  obtain ⟨cl, A, q1, q2, q3, q4, q5⟩ := V
  have hin : ¬ (j < 0 ∨ cl.slots.size ≤ j.toNatClampNeg) := by rw [q2, hi]; rintro (z | z); exact hj z; omega
  subst hp
  exact Run.to (X.caload hx (j := j) (v := v) (by rw [eT]; exact A.1) (State.isArrayOf_alike r.hZ.alike A.2.1) A.2.2 hin (q4.at hin (by rw [hi]; exact hv)) (g := mkF m pc Ls (.int j :: .ref a :: rest)) rfl rfl hd) k
theorem w_ldB (w : Wk p l e R s m args below meth c Z EL own h0 ws T h cells slots S) {a : Addr} {ka : ClassId} {z j : Int32} {vs : List Value} {dv v : Value} (V : Arv Z h a ka .byte z vs dv) {i : Nat} (hj : ¬ j < 0) (hi : j.toNatClampNeg = i) (hiz : i < z.toNatClampNeg) (hv : vs.getD i dv = v) (hd : decode c.code pc = .ok (.baload, 1)) (hp : pc + 1 = pc')
    (k : Run p e below Q T (mkF m pc' Ls (v :: rest))) : Run p e below Q T (mkF m pc Ls (.int j :: .ref a :: rest)) := by
  obtain ⟨vm0, k0, locs, hx, X, eT, r⟩ := w
  obtain ⟨cl, A, q1, q2, q3, q4, q5⟩ := V
  have hin : ¬ (j < 0 ∨ cl.slots.size ≤ j.toNatClampNeg) := by rw [q2, hi]; rintro (z | z); exact hj z; omega
  subst hp
  exact Run.to (X.baloadBytes hx (j := j) (v := v) (by rw [eT]; exact A.1) (State.isArrayOf_alike r.hZ.alike A.2.1) A.2.2 hin (q4.at hin (by rw [hi]; exact hv)) (g := mkF m pc Ls (.int j :: .ref a :: rest)) rfl rfl hd) k
/-- putfield: into an object that no constant books (by its class, or one of S) -/
theorem w_putF (w : Wk p l e R s m args below meth c Z EL own h0 ws T h cells slots S) {R0 O n d C : String} {index kk : Nat} {ty : FieldType} (wl : (Jvm.Cond.fieldLink own index R0 n d).before a0 Z = true) (via : Via Z R0 O n d) {a : Addr} {v old : Value} (F : Fld Z h a O n d old) (E : Exa Z h a C) (L : (Jvm.Cond.lays C O n d).before a0 Z = true ∨ ((Jvm.Cond.laysFinal C O n d).before a0 Z = true ∧ own = O ∧ meth.name = "<init>")) (wi : (Jvm.Cond.instantiable C kk).before a0 Z = true)
    (hty : parseFieldDescriptor d = some ty) (hn : narrow ty v = v) (hf : fits ty v = true) (hd : decode c.code pc = .ok (.putfield index, 3)) (q : a ∈ ws ∨ h0.size ≤ a) (hS : (C ≠ "java/lang/String" ∧ C ≠ "[B") ∨ a ∈ S) (hp : pc + 3 = pc')
    (k : ∀ T' h', Wk p l e R s m args below meth c Z EL own h0 ws T' h' cells slots S → Wr h h' a (Jvm.RoadKit.slotOf Z O n d) v → Fld Z h' a O n d v → Exa Z h' a C → Run p e below Q T' (mkF m pc' Ls rest)) : Run p e below Q T (mkF m pc Ls (v :: .ref a :: rest)) := by
  obtain ⟨vm0, k0, locs, hx, X, eT, r⟩ := w
  obtain ⟨T', h', X', e', Wq, stp⟩ := putF X hx r.hZ (host := "") r.ow (Or.inl wl) via eT F E L wi hty hn hf (g := mkF m pc Ls (v :: .ref a :: rest)) rfl rfl hd
  subst hp
  have Sa : Safe Z EL vm0 h a := by
    rcases hS with hS | hS
    · exact Safe.exa r.hZ.alike E hS.1 hS.2
    · exact (r.2.2.2.2.2.2.2.2.2 a hS).2
  exact Run.to stp (k T' h' ⟨vm0, k0, _, hx, X', e', r.wr Wq Sa q⟩ Wq (F.same Wq) (E.wr Wq))
theorem w_objInit (w : Wk p l e R s m args below meth c Z EL own h0 ws T h cells slots S) {idx : Nat} (w1 : (Jvm.Cond.methodLink own idx Lib.objectInit).before a0 Z = true) (w2 : (Jvm.Cond.instanceMethod Lib.objectInit).before a0 Z = true) (w3 : (Jvm.Cond.code Lib.objectInit ⟨#[0xb1]⟩ 1 none).before a0 Z = true) {a : Addr} (hd : decode c.code pc = .ok (.invokespecial idx, 3)) (hsz : Ls.size = c.maxLocals) (hf : 1 ≤ R.frames) {W : Nat} (hW : (rest.map fun v => v.category).sum ≤ W) (hl : W + 12 ≤ R.locals) (hp : pc + 3 = pc')
    (k : ∀ T', Wk p l e R s m args below meth c Z EL own h0 ws T' h cells slots S → Run p e below Q T' (mkF m pc' Ls rest)) : Run p e below Q T (mkF m pc Ls (.ref a :: rest)) := by
  obtain ⟨vm0, k0, locs, hx, X, eT, r⟩ := w
  obtain ⟨T', X', e', stp⟩ := initO X hx r.hZ r.ow w1 w2 w3 eT (g := mkF m pc Ls (.ref a :: rest)) rfl hsz rfl hd hf (W := W) (by show 2 * 0 + _ ≤ _; omega) hl
  subst hp
  exact Run.to stp (k T' ⟨vm0, k0, locs, hx, X', e', r⟩)
theorem w_ldcI (w : Wk p l e R s m args below meth c Z EL own h0 ws T h cells slots S) {index : Nat} {v : Int32} (wl : (Jvm.Cond.constant own index v).before a0 Z = true) (hd : decode c.code pc = .ok (.ldc index, 2)) (hp : pc + 2 = pc') (k : Run p e below Q T (mkF m pc' Ls (.int v :: st))) : Run p e below Q T (mkF m pc Ls st) := by
  obtain ⟨vm0, k0, locs, hx, X, eT, r⟩ := w
  subst hp
  exact Run.to (fun _ q => X.ldcI hx r.ow (mvT r.hZ wl) (g := mkF m pc Ls st) rfl hd q) k
theorem w_ldcJ (w : Wk p l e R s m args below meth c Z EL own h0 ws T h cells slots S) {index : Nat} {v : Int64} (wl : (Jvm.Cond.constantLong own index v).before a0 Z = true) (hd : decode c.code pc = .ok (.ldc2_w index, 3)) (hp : pc + 3 = pc') (k : Run p e below Q T (mkF m pc' Ls (.long v :: st))) : Run p e below Q T (mkF m pc Ls st) := by
  obtain ⟨vm0, k0, locs, hx, X, eT, r⟩ := w
  subst hp
  exact Run.to (fun _ q => X.ldc2J hx r.ow (mvT r.hZ wl) (g := mkF m pc Ls st) rfl hd q) k
/-- ldc of a String constant that is one of EL: read -/
theorem w_ldcS (w : Wk p l e R s m args below meth c Z EL own h0 ws T h cells slots S) (hEL : EW Z a0 EL) {text : String} {index : Nat} (wl : (Jvm.Cond.stringLink own index text).before a0 Z = true) (wS : ∀ a ∈ Bundle.stringAtoms, a.before a0 Z = true) (hmem : (own, index) ∈ EL) {vs : List Value} {z : Int32} {n : Nat}
    (ht : (∀ c ∈ text.toList, c.toNat < 256) ∧ text.toList.map (fun c => Value.int (Jvm.Lit.byteI c.toNat.toUInt16)) = vs) (hz : ¬ z < 0) (hl : z.toNatClampNeg = vs.length) (hn : 4 * text.toList.length ≤ n) (hbig : n ≤ 536870912) (hd : decode c.code pc = .ok (.ldc index, 2)) (hp : pc + 2 = pc') (hc : cells + 2 ≤ R.cells) (hl' : slots + (n + 4) ≤ R.slots)
    (k : ∀ T' h' x t kb, Wk p l e R s m args below meth c Z EL own h0 ws T' h' (cells + 2) (slots + (n + 4)) S → Ext h h' → Exa Z h' x "java/lang/String" → Fld Z h' x "java/lang/String" "coder" "B" (.int 0) → Fld Z h' x "java/lang/String" "value" "[B" (.ref t) → Arv Z h' t kb .byte z vs (.int 0) → (∀ y ∈ S, y ≠ x ∧ y ≠ t) → Run p e below Q T' (mkF m pc' Ls (.ref x :: st))) : Run p e below Q T (mkF m pc Ls st) := by
  obtain ⟨vm0, k0, locs, hx, X, eT, r⟩ := w
  obtain ⟨x, T', h', k1, t, kb, X', e', E, hS, hk1, hZ', hown', A, C, V, K, -, -, hCH, -, hne, stp⟩ := ldcCH X hx r.hZ r.ow wl wS eT r.1 r.2.1 hEL hmem r.ch ht hz hl (g := mkF m pc Ls st) rfl hd hn hbig hc hl'
  subst hp
  obtain ⟨a1, a2, a3, a4, a5, a6, a7, a8, a9, a10⟩ := r
  have hs : ∀ y ∈ S, y < h'.size ∧ Safe Z EL T'.vm h' y := fun y q => ⟨Nat.lt_of_lt_of_le (a10 y q).1 E.1, hCH.safe (a10 y q).1 (a10 y q).2⟩
  exact Run.to stp (k T' h' x t kb ⟨T'.vm, k1, locs, hx, X', e', hS, hk1, hZ', hown', a5.trans hCH, a6, a7.ext E, a8, a9, hs⟩ E A C V K fun y q => hne y (hs y q).2)
/-- ldc of any String constant: what it pushes is a reference -/
theorem w_ldcO (w : Wk p l e R s m args below meth c Z EL own h0 ws T h cells slots S) (hEL : EW Z a0 EL) {text : String} {index : Nat} (wl : (Jvm.Cond.stringLink own index text).before a0 Z = true) (wS : ∀ a ∈ Bundle.stringAtoms, a.before a0 Z = true) {n : Nat} (hn : 4 * text.toList.length ≤ n) (hbig : n ≤ 536870912) (hd : decode c.code pc = .ok (.ldc index, 2)) (hp : pc + 2 = pc') (hc : cells + 2 ≤ R.cells) (hl' : slots + (n + 4) ≤ R.slots)
    (k : ∀ T' h' x, Wk p l e R s m args below meth c Z EL own h0 ws T' h' (cells + 2) (slots + (n + 4)) S → Ext h h' → Run p e below Q T' (mkF m pc' Ls (.ref x :: st))) : Run p e below Q T (mkF m pc Ls st) := by
  obtain ⟨vm0, k0, locs, hx, X, eT, r⟩ := w
  obtain ⟨x, T', h', k1, X', e', E, hS, hk1, hZ', hown', hCH, -, stp⟩ := ldcOH X hx r.hZ r.ow wl wS eT r.1 r.2.1 hEL r.ch (g := mkF m pc Ls st) rfl hd hn hbig hc hl'
  subst hp
  obtain ⟨a1, a2, a3, a4, a5, a6, a7, a8, a9, a10⟩ := r
  exact Run.to stp (k T' h' x ⟨T'.vm, k1, locs, hx, X', e', hS, hk1, hZ', hown', a5.trans hCH, a6, a7.ext E, a8, a9, fun y q => ⟨Nat.lt_of_lt_of_le (a10 y q).1 E.1, hCH.safe (a10 y q).1 (a10 y q).2⟩⟩ E)
/-! contracts -/
/-- what a body promises at its end -/
def QmN (Z : State) (EL : List (String × Nat)) (s : State) (h0 : Heap) (ws : List Addr) (rm : Room) (P : Option Value → Heap → List Addr → Prop) (o : Outcome) (U' : State) : Prop :=
  ∃ v L, o = .returned v ∧ (Fr Z.heap.size L ∧ Keep h0 U'.heap ws ∧ ∃ N, P v U'.heap N ∧ ∀ x ∈ N, x < U'.heap.size ∧ Safe Z EL U'.vm U'.heap x) ∧ CHr Z EL s.vm s.heap U'.vm U'.heap ∧ ReturnedEndW s o U' L rm.cells rm.slots
def Pm (Z : State) (EL : List (String × Nat)) (as' : Array Value) (h : Heap) (S ws : List Addr) (a : Array Value) (U : State) : Prop := a = as' ∧ Z.Warmed39 U.vm ∧ U.heap = h ∧ CHv Z EL U.vm h ∧ Ext Z.heap h ∧ (∀ x ∈ ws, Z.heap.size ≤ x) ∧ ∀ x ∈ S, x < h.size ∧ Safe Z EL U.vm h x
def MetN (l : Launch) (Z : State) (EL : List (String × Nat)) (y : MethodName) (bytes : ByteArray) (maxL : Nat) (ret : Option FieldType) (rm : Room) (as' : Array Value) (h : Heap) (S ws : List Addr) (P : Option Value → Heap → List Addr → Prop) : Prop :=
  ∀ wl : List Jvm.Cond, MetFree l y (head1 (Jvm.Cond.code y bytes maxL ret :: wl) rm) (Pm Z EL as' h S ws) (fun _ _ _ _ _ => True) (fun _ U o U' => QmN Z EL U h ws rm P o U')
/-- a body's contract: walk it from its first frame -/
theorem MetN.of {y : MethodName} {bytes : ByteArray} {maxL : Nat} {ret : Option FieldType} {rm : Room} {as' : Array Value} {P : Option Value → Heap → List Addr → Prop} (hpn : plainFor y = true)
    (body : ∀ p e s m below meth c T, meth.name = y.name → meth.sig.returnType = ret → meth.locks = false → c.code = bytes → c.maxLocals = maxL → s.heap = h0 → Wk p l e rm s m as' below meth c Z EL y.cls h0 ws T h0 0 0 S → Run p e below (QmN Z EL s h0 ws rm P) T (entryFrame m as' maxL)) : MetN l Z EL y bytes maxL ret rm as' h0 S ws P := by
  intro wl
  refine MetFree.of_bodySF (code := bytes) (maxLocals := maxL) (ret := ret) hpn hisR ?_
  intro p e s m args below meth c s₁ Bd hml0 hP hK
  obtain ⟨rfl, hZ, hh, hC, hn, hws, hS⟩ := hP
  have hnm := (name_of_methodNamed Bd.named Bd.method).1
  have hown : s.vm.findClass y.cls = some m.cls := findClass_of_methodNamed Bd.named
  have X0 : Stand p l e rm s m args below meth c s₁ [] 0 0 := Stand.of_body Bd
  have e0 : s₁.heap = h0 := by rw [← hh, Bd.state]; rfl
  exact body p e s m below meth c s₁ hnm Bd.returns Bd.notSynchronized Bd.bytes hml0 hh ⟨s.vm, 0, [], Bd.exec, X0, e0, (State.WarmedH.refl s).since 0, Nat.zero_le _, hZ, hown, CHr.refl hC, Fr.nil _, Keep.refl _ _, hn, hws, hS⟩
/-- the end of a walk -/
theorem w_retN (w : Wk p l e R s m args below meth c Z EL own h0 ws T h cells slots S) (hEL : EW Z a0 EL) (hs : s.heap = h0) (hlk : meth.locks = false) {v : Option Value} (hv : meth.sig.returnType = none → v = none) {P : Option Value → Heap → List Addr → Prop} {N : List Addr} (hN : ∀ x ∈ N, x ∈ S) (hP : P v h N) (hc : cells ≤ R.cells) (hl : slots ≤ R.slots)
    (stp : ∀ {vm0 : Vm} {locs : List Loc}, Stand p l e R (s.setVm vm0) m args below meth c T locs cells slots → ∀ fs, (∀ (f : JFrame) (acts : List Action), f.method = m → f.locked = none → f.entered = [] → (doReturn e (T.setTop f) acts v).1 = T.setFrames fs) → Steps p.tables e below (T.setTop g) (T.setFrames fs)) : Run p e below (QmN Z EL s h0 ws R P) T g := by
  obtain ⟨vm0, k0, locs, hx, X, eT, r⟩ := w
  obtain ⟨fs, hr, hrun, hended, hE⟩ := X.leaveW r.1 (by rw [eT]; exact r.2.1) hv
  refine ⟨_, _, stp X fs hr, hrun, hended, v, locs, rfl, ⟨r.2.2.2.2.2.1, ?_, ?_⟩, ?_, hE.1, hE.2.1, hE.2.2.1, hE.2.2.2.mono hc hl⟩
  · show Keep h0 T.heap ws
    rw [eT]; exact r.keep
  · refine ⟨N, by rw [show (T.setFrames fs).heap = h from eT]; exact hP, fun x z => ?_⟩
    show x < T.heap.size ∧ Safe Z EL T.vm T.heap x
    have q := r.2.2.2.2.2.2.2.2.2 x (hN x z)
    rw [eT]; exact ⟨q.1, (CHv.at X r.hZ hEL r.ch).safe q.1 q.2⟩
  · show CHr Z EL s.vm s.heap T.vm T.heap
    rw [eT, hs]
    exact r.2.2.2.2.1.trans (CHv.at X r.hZ hEL r.ch)
theorem w_ireturnN (w : Wk p l e R s m args below meth c Z EL own h0 ws T h cells slots S) (hEL : EW Z a0 EL) (hs : s.heap = h0) (hlk : meth.locks = false) {t : FieldType} {z : Int32} (hret : meth.sig.returnType = some t) (hn : narrow t (.int z) = .int z) (ht : t = .int ∨ t = .boolean ∨ t = .byte ∨ t = .char ∨ t = .short) {P : Option Value → Heap → List Addr → Prop} (hd : decode c.code pc = .ok (.ireturn, 1)) (hc : cells ≤ R.cells) (hl : slots ≤ R.slots) {N : List Addr} (hN : ∀ x ∈ N, x ∈ S) (hP : P (some (.int z)) h N) : Run p e below (QmN Z EL s h0 ws R P) T (mkF m pc Ls [.int z]) :=
  w_retN w hEL hs hlk (v := some (.int z)) (fun q => by rw [hret] at q; cases q) hN hP hc hl fun X fs hr => X.ireturnOut w.hx hret hn ht hd hr
theorem w_lreturnN (w : Wk p l e R s m args below meth c Z EL own h0 ws T h cells slots S) (hEL : EW Z a0 EL) (hs : s.heap = h0) (hlk : meth.locks = false) {z : Int64} (hret : meth.sig.returnType = some .long) {P : Option Value → Heap → List Addr → Prop} (hd : decode c.code pc = .ok (.lreturn, 1)) (hc : cells ≤ R.cells) (hl : slots ≤ R.slots) {N : List Addr} (hN : ∀ x ∈ N, x ∈ S) (hP : P (some (.long z)) h N) : Run p e below (QmN Z EL s h0 ws R P) T (mkF m pc Ls [.long z]) :=
  w_retN w hEL hs hlk (v := some (.long z)) (fun q => by rw [hret] at q; cases q) hN hP hc hl fun X fs hr => X.lreturnOut w.hx hret hd hr
theorem w_areturnN (w : Wk p l e R s m args below meth c Z EL own h0 ws T h cells slots S) (hEL : EW Z a0 EL) (hs : s.heap = h0) (hlk : meth.locks = false) {t : FieldType} {v : Value} (hret : meth.sig.returnType = some t) (ht : t.isReference = true) (hv : v.isRef = true) {P : Option Value → Heap → List Addr → Prop} (hd : decode c.code pc = .ok (.areturn, 1)) (hc : cells ≤ R.cells) (hl : slots ≤ R.slots) {N : List Addr} (hN : ∀ x ∈ N, x ∈ S) (hP : P (some v) h N) : Run p e below (QmN Z EL s h0 ws R P) T (mkF m pc Ls [v]) :=
  w_retN w hEL hs hlk (v := some v) (fun q => by rw [hret] at q; cases q) hN hP hc hl fun X fs hr => X.areturnOut w.hx hv hret ht hd hr
theorem w_returnN (w : Wk p l e R s m args below meth c Z EL own h0 ws T h cells slots S) (hEL : EW Z a0 EL) (hs : s.heap = h0) (hlk : meth.locks = false) (hret : meth.sig.returnType = none) {P : Option Value → Heap → List Addr → Prop} (hd : decode c.code pc = .ok (.return_, 1)) (hc : cells ≤ R.cells) (hl : slots ≤ R.slots) {N : List Addr} (hN : ∀ x ∈ N, x ∈ S) (hP : P none h N) : Run p e below (QmN Z EL s h0 ws R P) T (mkF m pc Ls []) :=
  w_retN w hEL hs hlk (v := none) (fun _ => rfl) hN hP hc hl fun X fs hr => X.returnOut w.hx hret hd hr
/-- a contract pays its caller -/
theorem MetN.back {y : MethodName} {bytes : ByteArray} {maxL : Nat} {ret : Option FieldType} {rm : Room} {as' : Array Value} {S' ws' : List Addr} {P : Option Value → Heap → List Addr → Prop} {len W : Nat} (hM : MetN l Z EL y bytes maxL ret rm as' h S' ws' P) (hZ : Z.Warmed39 vm0) (wc : (Jvm.Cond.code y bytes maxL ret).before a0 Z = true) (wz : (Jvm.Cond.initialized y.cls).before a0 Z = true)
    (hf : rm.frames + 1 ≤ R.frames) (hl : W + (maxL + 11) + rm.locals ≤ R.locals) (hEL : EW Z a0 EL) (H : CHv Z EL vm0 h) (hn : Ext Z.heap h) (hws : ∀ x ∈ ws', Z.heap.size ≤ x) (hS : ∀ x ∈ S', x < h.size ∧ Safe Z EL vm0 h x) :
    BackS l R p e below (s.setVm vm0) args y len W (fun A a => a = as' ∧ A.U.heap = h ∧ A.cells + rm.cells ≤ R.cells ∧ A.slots + rm.slots ≤ R.slots)
      (fun A _ v B => ∃ L, (Fr Z.heap.size L ∧ Keep h B.U.heap ws' ∧ ∃ N, P v B.U.heap N ∧ ∀ x ∈ N, x < B.U.heap.size ∧ Safe Z EL B.U.vm B.U.heap x) ∧ B.locs = A.locs ++ L ∧ B.cells = A.cells + rm.cells ∧ B.slots = A.slots + rm.slots ∧ CHr Z EL vm0 h B.U.vm B.U.heap) :=
  BackS.of_freeW (bytes := bytes) (maxL := maxL) (ret := ret) (E := fun _ first o t L k n => k = rm.cells ∧ n = rm.slots ∧ (∃ v, o = .returned v ∧ (Fr Z.heap.size L ∧ Keep h t.heap ws' ∧ ∃ N, P v t.heap N ∧ ∀ x ∈ N, x < t.heap.size ∧ Safe Z EL t.vm t.heap x)) ∧ CHr Z EL first.vm first.heap t.vm t.heap) (hM []) hf hl
    (fun m meth c A a Y hp => have hU : Z.Warmed39 A.U.vm := wtrans (s := s.setVm vm0) hZ Y.warmed
      ⟨by show (Jvm.Cond.and _ .tt).before a A.U = true; rw [Cond.before_and, mv hU wc]; rfl, mv hU wc, mv hU wz, hp.2.2.1, hp.2.2.2⟩)
    (fun m meth c A a g mk Y hp => ⟨hp.1, wtrans (s := s.setVm vm0) hZ Y.warmed, hp.2.1, (CHv.at Y hZ hEL H).1, hn, hws, fun x q => ⟨(hS x q).1, (CHv.at Y hZ hEL H).safe (hS x q).1 (hS x q).2⟩⟩) (fun _ _ _ _ _ _ _ _ _ => trivial)
    (fun _ _ _ _ ⟨v, L, h1, h2, h3, h4⟩ => ⟨L, _, _, h4, rfl, rfl, ⟨v, h1, h2⟩, h3⟩)
    (fun m meth c A a g mk v t L k n Y hp _ _ ⟨e1, e2, ⟨v', e3, e4⟩, e5⟩ => by
      cases e3; subst e1 e2
      refine ⟨L, e4, rfl, rfl, rfl, (CHv.at Y hZ hEL H).trans ?_⟩
      rw [← hp.2.1]; exact e5)
theorem Rs.adds (r : Rs s m Z EL own h0 ws vm0 k0 locs h S) {N : List Addr} (q : ∀ x ∈ N, x < h.size ∧ Safe Z EL vm0 h x) : Rs s m Z EL own h0 ws vm0 k0 locs h (N ++ S) := by
  obtain ⟨a1, a2, a3, a4, a5, a6, a7, a8, a9, a10⟩ := r
  exact ⟨a1, a2, a3, a4, a5, a6, a7, a8, a9, fun x z => (List.mem_append.mp z).elim (q x) (a10 x)⟩
/-- what stands behind a call -/
theorem Rs.call (r : Rs s m Z EL own h0 ws vm0 k0 locs h S) {vm1 : Vm} {L : List Loc} {ws' : List Addr} (h2 : (s.setVm vm0).Since vm1 h'.size) (hC : CHr Z EL vm0 h vm1 h') (F : Fr Z.heap.size L) (K : Keep h h' ws') (q : ∀ x ∈ ws', x ∈ ws ∨ h0.size ≤ x) : Rs s m Z EL own h0 ws vm1 h'.size (locs ++ L) h' S := by
  obtain ⟨a1, a2, a3, a4, a5, a6, a7, a8, a9, a10⟩ := r
  exact ⟨a1.trans h2 (Nat.le_trans a2 K.1), Nat.le_refl _, State.Warmed39.trans (t := s.setVm vm0) a3 h2.1, (h2.1.alike.findClass _ _).trans a4, a5.trans hC, a6.app F, a7.trans K q, a8, a9, fun x z => ⟨Nat.lt_of_lt_of_le (a10 x z).1 K.1, hC.safe (a10 x z).1 (a10 x z).2⟩⟩
theorem w_staticN (w : Wk p l e R s m args below meth c Z EL own h0 ws T h cells slots S) (hEL : EW Z a0 EL) {index : Nat} {y : MethodName} {bytes : ByteArray} {maxL : Nat} {ret : Option FieldType} {rm : Room} {as' : Array Value} {S' ws' : List Addr} {P : Option Value → Heap → List Addr → Prop} {W : Nat} {argsL : List Value}
    (w1 : (Jvm.Cond.methodLink own index y).before a0 Z = true) (w2 : (Jvm.Cond.static y).before a0 Z = true) (w3 : (Jvm.Cond.initialized y.cls).before a0 Z = true) (w4 : (Jvm.Cond.code y bytes maxL ret).before a0 Z = true) (hy : y.cls ≠ "java/lang/invoke/MethodHandle" ∧ y.cls ≠ "java/lang/invoke/VarHandle")
    (hM : MetN l Z EL y bytes maxL ret rm as' h S' ws' P) (hS : ∀ x ∈ S', x ∈ S) (hws : ∀ x ∈ ws', x ∈ ws ∨ h0.size ≤ x) (hlen : ∀ sig, parseMethodDescriptor y.desc = some sig → argsL.length = sig.parameters.length) (ha : argsL.toArray = as') (hst : st = argsL.reverse ++ rest) (hd : decode c.code pc = .ok (.invokestatic index, 3)) (hsz : Ls.size = c.maxLocals)
    (hW : (rest.map fun v => v.category).sum ≤ W) (hf : rm.frames + 1 ≤ R.frames) (hl : W + (maxL + 11) + rm.locals ≤ R.locals) (hc : cells + rm.cells ≤ R.cells) (hsl : slots + rm.slots ≤ R.slots) (hp : pc + 3 = pc')
    (k : ∀ v N T' h', Wk p l e R s m args below meth c Z EL own h0 ws T' h' (cells + rm.cells) (slots + rm.slots) (N ++ S) → Keep h h' ws' → P v h' N → Run p e below Q T' (mkF m pc' Ls (v.toList ++ rest))) : Run p e below Q T (mkF m pc Ls st) := by
  obtain ⟨vm0, k0, locs, hx, X, eT, r⟩ := w
  have hn := r.old
  have hb := MetN.back (R := R) (p := p) (e := e) (below := below) (s := s) (args := args) (len := 3) (W := W) hM r.hZ w4 w3 hf hl hEL r.ch hn (fun x q => (hws x q).elim (r.2.2.2.2.2.2.2.2.1 x) (Nat.le_trans r.2.2.2.2.2.2.2.1.1)) (fun x q => r.2.2.2.2.2.2.2.2.2 x (hS x q))
  obtain ⟨v, vm1, ⟨T', L', c', n'⟩, -, X', hSi, hg, ⟨L, ⟨q1, q2, N, q3, qN⟩, y1, y2, y3, hC⟩, stp⟩ := callSS X hx r.ow (mvT r.hZ w1) (mvT r.hZ w2) (mvT r.hZ w3) (mvT r.hZ w4) hy hb (g := mkF m pc Ls st) rfl hsz (argsL := argsL) (rest := rest) hlen hst (by show 2 * 0 + _ ≤ _; omega) hd (fun _ _ => ⟨ha, eT, hc, hsl⟩)
  dsimp only [Pt.U, Pt.locs, Pt.cells, Pt.slots] at X' hSi hg q2 q3 qN y1 y2 y3 hC stp
  subst y1 y2 y3 hp
  exact Run.stp stp (k v N T' T'.heap ⟨T'.vm, _, _, hx, X', rfl, (r.call hSi hC q1 q2 hws).adds qN⟩ q2 q3)
theorem w_specialN (w : Wk p l e R s m args below meth c Z EL own h0 ws T h cells slots S) (hEL : EW Z a0 EL) {index : Nat} {y : MethodName} {bytes : ByteArray} {maxL : Nat} {rm : Room} {as' : Array Value} {S' ws' : List Addr} {P : Option Value → Heap → List Addr → Prop} {W : Nat} {a : Addr} {argsL : List Value}
    (hy1 : y.name = "<init>") (w1 : (Jvm.Cond.methodLink own index y).before a0 Z = true) (w2 : (Jvm.Cond.instanceMethod y).before a0 Z = true) (w3 : (Jvm.Cond.initialized y.cls).before a0 Z = true) (w4 : (Jvm.Cond.code y bytes maxL none).before a0 Z = true) (hy : y.cls ≠ "java/lang/invoke/MethodHandle" ∧ y.cls ≠ "java/lang/invoke/VarHandle")
    (hM : MetN l Z EL y bytes maxL none rm as' h S' ws' P) (hS : ∀ x ∈ S', x ∈ S) (hws : ∀ x ∈ ws', x ∈ ws ∨ h0.size ≤ x) (hlen : ∀ sig, parseMethodDescriptor y.desc = some sig → argsL.length = sig.parameters.length) (ha : (Value.ref a :: argsL).toArray = as') (hst : st = argsL.reverse ++ .ref a :: rest) (hd : decode c.code pc = .ok (.invokespecial index, 3)) (hsz : Ls.size = c.maxLocals)
    (hW : (rest.map fun v => v.category).sum ≤ W) (hf : rm.frames + 1 ≤ R.frames) (hl : W + (maxL + 11) + rm.locals ≤ R.locals) (hc : cells + rm.cells ≤ R.cells) (hsl : slots + rm.slots ≤ R.slots) (hp : pc + 3 = pc')
    (k : ∀ v N T' h', Wk p l e R s m args below meth c Z EL own h0 ws T' h' (cells + rm.cells) (slots + rm.slots) (N ++ S) → Keep h h' ws' → P v h' N → Run p e below Q T' (mkF m pc' Ls (v.toList ++ rest))) : Run p e below Q T (mkF m pc Ls st) := by
  obtain ⟨vm0, k0, locs, hx, X, eT, r⟩ := w
  have hn := r.old
  have hb := MetN.back (R := R) (p := p) (e := e) (below := below) (s := s) (args := args) (len := 3) (W := W) hM r.hZ w4 w3 hf hl hEL r.ch hn (fun x q => (hws x q).elim (r.2.2.2.2.2.2.2.2.1 x) (Nat.le_trans r.2.2.2.2.2.2.2.1.1)) (fun x q => r.2.2.2.2.2.2.2.2.2 x (hS x q))
  obtain ⟨v, vm1, ⟨T', L', c', n'⟩, -, X', hSi, hg, ⟨L, ⟨q1, q2, N, q3, qN⟩, y1, y2, y3, hC⟩, stp⟩ := X.specialBackS hx hy1 r.ow (mvT r.hZ w1) (mvT r.hZ w2) (mvT r.hZ w4) hy hb (g := mkF m pc Ls st) rfl hsz (Steps.refl _) (a := a) (argsL := argsL) (rest := rest) hlen hst (by show 2 * 0 + _ ≤ _; omega) hd (fun _ _ => ⟨ha, eT, hc, hsl⟩)
  dsimp only [Pt.U, Pt.locs, Pt.cells, Pt.slots] at X' hSi hg q2 q3 qN y1 y2 y3 hC stp
  subst y1 y2 y3 hp
  exact Run.stp stp (k v N T' T'.heap ⟨T'.vm, _, _, hx, X', rfl, (r.call hSi hC q1 q2 hws).adds qN⟩ q2 q3)
theorem w_virtualN (w : Wk p l e R s m args below meth c Z EL own h0 ws T h cells slots S) (hEL : EW Z a0 EL) {index : Nat} {y y' : MethodName} {C : String} {bytes : ByteArray} {maxL : Nat} {ret : Option FieldType} {rm : Room} {as' : Array Value} {S' ws' : List Addr} {P : Option Value → Heap → List Addr → Prop} {W : Nat} {a : Addr} {argsL : List Value}
    (w1 : (Jvm.Cond.methodLink own index y).before a0 Z = true) (w2 : (Jvm.Cond.declares y).before a0 Z = true) (w5 : (Jvm.Cond.selects y.cls y y).before a0 Z = true) (w6 : (Jvm.Cond.selects C y y').before a0 Z = true) (w7 : (Jvm.Cond.instanceMethod y').before a0 Z = true) (w3 : (Jvm.Cond.initialized y'.cls).before a0 Z = true) (w4 : (Jvm.Cond.code y' bytes maxL ret).before a0 Z = true) (hy : y.cls ≠ "java/lang/invoke/MethodHandle" ∧ y.cls ≠ "java/lang/invoke/VarHandle")
    (E : Exa Z h a C) (hM : MetN l Z EL y' bytes maxL ret rm as' h S' ws' P) (hS : ∀ x ∈ S', x ∈ S) (hws : ∀ x ∈ ws', x ∈ ws ∨ h0.size ≤ x) (hlen : ∀ sig, parseMethodDescriptor y.desc = some sig → argsL.length = sig.parameters.length) (ha : (Value.ref a :: argsL).toArray = as') (hst : st = argsL.reverse ++ .ref a :: rest) (hd : decode c.code pc = .ok (.invokevirtual index, 3)) (hsz : Ls.size = c.maxLocals)
    (hW : (rest.map fun v => v.category).sum ≤ W) (hf : rm.frames + 1 ≤ R.frames) (hl : W + (maxL + 11) + rm.locals ≤ R.locals) (hc : cells + rm.cells ≤ R.cells) (hsl : slots + rm.slots ≤ R.slots) (hp : pc + 3 = pc')
    (k : ∀ v N T' h', Wk p l e R s m args below meth c Z EL own h0 ws T' h' (cells + rm.cells) (slots + rm.slots) (N ++ S) → Keep h h' ws' → P v h' N → Run p e below Q T' (mkF m pc' Ls (v.toList ++ rest))) : Run p e below Q T (mkF m pc Ls st) := by
  obtain ⟨vm0, k0, locs, hx, X, eT, r⟩ := w
  have hn := r.old
  have hb := MetN.back (R := R) (p := p) (e := e) (below := below) (s := s) (args := args) (len := 3) (W := W) hM r.hZ w4 w3 hf hl hEL r.ch hn (fun x q => (hws x q).elim (r.2.2.2.2.2.2.2.2.1 x) (Nat.le_trans r.2.2.2.2.2.2.2.1.1)) (fun x q => r.2.2.2.2.2.2.2.2.2 x (hS x q))
  obtain ⟨cq, kq, qa, qb, qc⟩ := isOf r.hZ eT E
  obtain ⟨v, vm1, ⟨T', L', c', n'⟩, -, X', hSi, hg, ⟨L, ⟨q1, q2, N, q3, qN⟩, y1, y2, y3, hC⟩, stp⟩ := X.virtualBackS hx r.ow (mvT r.hZ w1) (mvT r.hZ w2) (notFace_of_selects (args := #[]) (mvT r.hZ w5)) (mvT r.hZ w6) (mvT r.hZ w7) hy hb qa qc (g := mkF m pc Ls st) rfl hsz (Steps.refl _) (argsL := argsL) (rest := rest) hlen hst (by show 2 * 0 + _ ≤ _; omega) hd (fun _ _ => ⟨ha, eT, hc, hsl⟩)
  dsimp only [Pt.U, Pt.locs, Pt.cells, Pt.slots] at X' hSi hg q2 q3 qN y1 y2 y3 hC stp
  subst y1 y2 y3 hp
  exact Run.stp stp (k v N T' T'.heap ⟨T'.vm, _, _, hx, X', rfl, (r.call hSi hC q1 q2 hws).adds qN⟩ q2 q3)
/-- a contract that says nothing of what it made -/
def Lf (P : Option Value → Heap → Prop) (v : Option Value) (h : Heap) (N : List Addr) : Prop := N = [] ∧ P v h
abbrev Qm (Z : State) (EL : List (String × Nat)) (s : State) (h0 : Heap) (ws : List Addr) (rm : Room) (P : Option Value → Heap → Prop) (o : Outcome) (U' : State) : Prop := QmN Z EL s h0 ws rm (Lf P) o U'
abbrev Met (l : Launch) (Z : State) (EL : List (String × Nat)) (y : MethodName) (bytes : ByteArray) (maxL : Nat) (ret : Option FieldType) (rm : Room) (as' : Array Value) (h : Heap) (S ws : List Addr) (P : Option Value → Heap → Prop) : Prop := MetN l Z EL y bytes maxL ret rm as' h S ws (Lf P)
theorem Met.of {y : MethodName} {bytes : ByteArray} {maxL : Nat} {ret : Option FieldType} {rm : Room} {as' : Array Value} {P : Option Value → Heap → Prop} (hpn : plainFor y = true)
    (body : ∀ p e s m below meth c T, meth.name = y.name → meth.sig.returnType = ret → meth.locks = false → c.code = bytes → c.maxLocals = maxL → s.heap = h0 → Wk p l e rm s m as' below meth c Z EL y.cls h0 ws T h0 0 0 S → Run p e below (Qm Z EL s h0 ws rm P) T (entryFrame m as' maxL)) : Met l Z EL y bytes maxL ret rm as' h0 S ws P := MetN.of hpn body
theorem nilS : ∀ x ∈ ([] : List Addr), x ∈ S := fun _ q => nomatch q
theorem w_ireturn (w : Wk p l e R s m args below meth c Z EL own h0 ws T h cells slots S) (hEL : EW Z a0 EL) (hs : s.heap = h0) (hlk : meth.locks = false) {t : FieldType} {z : Int32} (hret : meth.sig.returnType = some t) (hn : narrow t (.int z) = .int z) (ht : t = .int ∨ t = .boolean ∨ t = .byte ∨ t = .char ∨ t = .short) {P : Option Value → Heap → Prop} (hd : decode c.code pc = .ok (.ireturn, 1)) (hc : cells ≤ R.cells) (hl : slots ≤ R.slots) (hP : P (some (.int z)) h) : Run p e below (Qm Z EL s h0 ws R P) T (mkF m pc Ls [.int z]) :=
  w_ireturnN w hEL hs hlk hret hn ht hd hc hl nilS ⟨rfl, hP⟩
theorem w_lreturn (w : Wk p l e R s m args below meth c Z EL own h0 ws T h cells slots S) (hEL : EW Z a0 EL) (hs : s.heap = h0) (hlk : meth.locks = false) {z : Int64} (hret : meth.sig.returnType = some .long) {P : Option Value → Heap → Prop} (hd : decode c.code pc = .ok (.lreturn, 1)) (hc : cells ≤ R.cells) (hl : slots ≤ R.slots) (hP : P (some (.long z)) h) : Run p e below (Qm Z EL s h0 ws R P) T (mkF m pc Ls [.long z]) :=
  w_lreturnN w hEL hs hlk hret hd hc hl nilS ⟨rfl, hP⟩
theorem w_areturn (w : Wk p l e R s m args below meth c Z EL own h0 ws T h cells slots S) (hEL : EW Z a0 EL) (hs : s.heap = h0) (hlk : meth.locks = false) {t : FieldType} {v : Value} (hret : meth.sig.returnType = some t) (ht : t.isReference = true) (hv : v.isRef = true) {P : Option Value → Heap → Prop} (hd : decode c.code pc = .ok (.areturn, 1)) (hc : cells ≤ R.cells) (hl : slots ≤ R.slots) (hP : P (some v) h) : Run p e below (Qm Z EL s h0 ws R P) T (mkF m pc Ls [v]) :=
  w_areturnN w hEL hs hlk hret ht hv hd hc hl nilS ⟨rfl, hP⟩
theorem w_return (w : Wk p l e R s m args below meth c Z EL own h0 ws T h cells slots S) (hEL : EW Z a0 EL) (hs : s.heap = h0) (hlk : meth.locks = false) (hret : meth.sig.returnType = none) {P : Option Value → Heap → Prop} (hd : decode c.code pc = .ok (.return_, 1)) (hc : cells ≤ R.cells) (hl : slots ≤ R.slots) (hP : P none h) : Run p e below (Qm Z EL s h0 ws R P) T (mkF m pc Ls []) :=
  w_returnN w hEL hs hlk hret hd hc hl nilS ⟨rfl, hP⟩
theorem w_static (w : Wk p l e R s m args below meth c Z EL own h0 ws T h cells slots S) (hEL : EW Z a0 EL) {index : Nat} {y : MethodName} {bytes : ByteArray} {maxL : Nat} {ret : Option FieldType} {rm : Room} {as' : Array Value} {S' ws' : List Addr} {P : Option Value → Heap → Prop} {W : Nat} {argsL : List Value}
    (w1 : (Jvm.Cond.methodLink own index y).before a0 Z = true) (w2 : (Jvm.Cond.static y).before a0 Z = true) (w3 : (Jvm.Cond.initialized y.cls).before a0 Z = true) (w4 : (Jvm.Cond.code y bytes maxL ret).before a0 Z = true) (hy : y.cls ≠ "java/lang/invoke/MethodHandle" ∧ y.cls ≠ "java/lang/invoke/VarHandle")
    (hM : Met l Z EL y bytes maxL ret rm as' h S' ws' P) (hS : ∀ x ∈ S', x ∈ S) (hws : ∀ x ∈ ws', x ∈ ws ∨ h0.size ≤ x) (hlen : ∀ sig, parseMethodDescriptor y.desc = some sig → argsL.length = sig.parameters.length) (ha : argsL.toArray = as') (hst : st = argsL.reverse ++ rest) (hd : decode c.code pc = .ok (.invokestatic index, 3)) (hsz : Ls.size = c.maxLocals)
    (hW : (rest.map fun v => v.category).sum ≤ W) (hf : rm.frames + 1 ≤ R.frames) (hl : W + (maxL + 11) + rm.locals ≤ R.locals) (hc : cells + rm.cells ≤ R.cells) (hsl : slots + rm.slots ≤ R.slots) (hp : pc + 3 = pc')
    (k : ∀ v T' h', Wk p l e R s m args below meth c Z EL own h0 ws T' h' (cells + rm.cells) (slots + rm.slots) S → Keep h h' ws' → P v h' → Run p e below Q T' (mkF m pc' Ls (v.toList ++ rest))) : Run p e below Q T (mkF m pc Ls st) :=
  w_staticN w hEL w1 w2 w3 w4 hy hM hS hws hlen ha hst hd hsz hW hf hl hc hsl hp fun v N T' h' w' K' P' => by obtain ⟨rfl, P'⟩ := P'; exact k v T' h' w' K' P'
theorem w_special (w : Wk p l e R s m args below meth c Z EL own h0 ws T h cells slots S) (hEL : EW Z a0 EL) {index : Nat} {y : MethodName} {bytes : ByteArray} {maxL : Nat} {rm : Room} {as' : Array Value} {S' ws' : List Addr} {P : Option Value → Heap → Prop} {W : Nat} {a : Addr} {argsL : List Value}
    (hy1 : y.name = "<init>") (w1 : (Jvm.Cond.methodLink own index y).before a0 Z = true) (w2 : (Jvm.Cond.instanceMethod y).before a0 Z = true) (w3 : (Jvm.Cond.initialized y.cls).before a0 Z = true) (w4 : (Jvm.Cond.code y bytes maxL none).before a0 Z = true) (hy : y.cls ≠ "java/lang/invoke/MethodHandle" ∧ y.cls ≠ "java/lang/invoke/VarHandle")
    (hM : Met l Z EL y bytes maxL none rm as' h S' ws' P) (hS : ∀ x ∈ S', x ∈ S) (hws : ∀ x ∈ ws', x ∈ ws ∨ h0.size ≤ x) (hlen : ∀ sig, parseMethodDescriptor y.desc = some sig → argsL.length = sig.parameters.length) (ha : (Value.ref a :: argsL).toArray = as') (hst : st = argsL.reverse ++ .ref a :: rest) (hd : decode c.code pc = .ok (.invokespecial index, 3)) (hsz : Ls.size = c.maxLocals)
    (hW : (rest.map fun v => v.category).sum ≤ W) (hf : rm.frames + 1 ≤ R.frames) (hl : W + (maxL + 11) + rm.locals ≤ R.locals) (hc : cells + rm.cells ≤ R.cells) (hsl : slots + rm.slots ≤ R.slots) (hp : pc + 3 = pc')
    (k : ∀ v T' h', Wk p l e R s m args below meth c Z EL own h0 ws T' h' (cells + rm.cells) (slots + rm.slots) S → Keep h h' ws' → P v h' → Run p e below Q T' (mkF m pc' Ls (v.toList ++ rest))) : Run p e below Q T (mkF m pc Ls st) :=
  w_specialN w hEL hy1 w1 w2 w3 w4 hy hM hS hws hlen ha hst hd hsz hW hf hl hc hsl hp fun v N T' h' w' K' P' => by obtain ⟨rfl, P'⟩ := P'; exact k v T' h' w' K' P'
theorem w_virtual (w : Wk p l e R s m args below meth c Z EL own h0 ws T h cells slots S) (hEL : EW Z a0 EL) {index : Nat} {y y' : MethodName} {C : String} {bytes : ByteArray} {maxL : Nat} {ret : Option FieldType} {rm : Room} {as' : Array Value} {S' ws' : List Addr} {P : Option Value → Heap → Prop} {W : Nat} {a : Addr} {argsL : List Value}
    (w1 : (Jvm.Cond.methodLink own index y).before a0 Z = true) (w2 : (Jvm.Cond.declares y).before a0 Z = true) (w5 : (Jvm.Cond.selects y.cls y y).before a0 Z = true) (w6 : (Jvm.Cond.selects C y y').before a0 Z = true) (w7 : (Jvm.Cond.instanceMethod y').before a0 Z = true) (w3 : (Jvm.Cond.initialized y'.cls).before a0 Z = true) (w4 : (Jvm.Cond.code y' bytes maxL ret).before a0 Z = true) (hy : y.cls ≠ "java/lang/invoke/MethodHandle" ∧ y.cls ≠ "java/lang/invoke/VarHandle")
    (E : Exa Z h a C) (hM : Met l Z EL y' bytes maxL ret rm as' h S' ws' P) (hS : ∀ x ∈ S', x ∈ S) (hws : ∀ x ∈ ws', x ∈ ws ∨ h0.size ≤ x) (hlen : ∀ sig, parseMethodDescriptor y.desc = some sig → argsL.length = sig.parameters.length) (ha : (Value.ref a :: argsL).toArray = as') (hst : st = argsL.reverse ++ .ref a :: rest) (hd : decode c.code pc = .ok (.invokevirtual index, 3)) (hsz : Ls.size = c.maxLocals)
    (hW : (rest.map fun v => v.category).sum ≤ W) (hf : rm.frames + 1 ≤ R.frames) (hl : W + (maxL + 11) + rm.locals ≤ R.locals) (hc : cells + rm.cells ≤ R.cells) (hsl : slots + rm.slots ≤ R.slots) (hp : pc + 3 = pc')
    (k : ∀ v T' h', Wk p l e R s m args below meth c Z EL own h0 ws T' h' (cells + rm.cells) (slots + rm.slots) S → Keep h h' ws' → P v h' → Run p e below Q T' (mkF m pc' Ls (v.toList ++ rest))) : Run p e below Q T (mkF m pc Ls st) :=
  w_virtualN w hEL w1 w2 w5 w6 w7 w3 w4 hy E hM hS hws hlen ha hst hd hsz hW hf hl hc hsl hp fun v N T' h' w' K' P' => by obtain ⟨rfl, P'⟩ := P'; exact k v T' h' w' K' P'
/-- a law of the pasted text (Back), of a virtual call that leaves the heap as it was -/
theorem w_virtB (w : Wk p l e R s m args below meth c Z EL own h0 ws T h cells slots S) {index : Nat} {y y' : MethodName} {C : String} {as' : Array Value} {Pv : Option Value → Prop} {W : Nat} {a : Addr} {argsL : List Value}
    (w1 : (Jvm.Cond.methodLink own index y).before a0 Z = true) (w2 : (Jvm.Cond.declares y).before a0 Z = true) (w5 : (Jvm.Cond.selects y.cls y y).before a0 Z = true) (w6 : (Jvm.Cond.selects C y y').before a0 Z = true) (w7 : (Jvm.Cond.instanceMethod y').before a0 Z = true) (hy : y.cls ≠ "java/lang/invoke/MethodHandle" ∧ y.cls ≠ "java/lang/invoke/VarHandle")
    (E : Exa Z h a C) (hK : ∀ vm0, Z.Warmed39 (s.setVm vm0).vm → Back l R p e below (s.setVm vm0) args y' 3 W (fun P b => b = as' ∧ P.U.heap = h ∧ P.cells + 0 ≤ R.cells ∧ P.slots + 0 ≤ R.slots) (fun P _ v B => ∃ L, (Pv v ∧ L = [] ∧ B.U.heap = h) ∧ B.locs = P.locs ++ L ∧ B.cells = P.cells + 0 ∧ B.slots = P.slots + 0))
    (hlen : ∀ sig, parseMethodDescriptor y.desc = some sig → argsL.length = sig.parameters.length) (ha : (Value.ref a :: argsL).toArray = as') (hst : st = argsL.reverse ++ .ref a :: rest) (hd : decode c.code pc = .ok (.invokevirtual index, 3)) (hsz : Ls.size = c.maxLocals)
    (hW : (rest.map fun v => v.category).sum ≤ W) (hc : cells ≤ R.cells) (hsl : slots ≤ R.slots) (hp : pc + 3 = pc')
    (k : ∀ v T', Wk p l e R s m args below meth c Z EL own h0 ws T' h cells slots S → Pv v → Run p e below Q T' (mkF m pc' Ls (v.toList ++ rest))) : Run p e below Q T (mkF m pc Ls st) := by
  obtain ⟨vm0, k0, locs, hx, X, eT, r⟩ := w
  obtain ⟨cq, kq, qa, qb, qc⟩ := isOf r.hZ eT E
  obtain ⟨v, vm1, ⟨T', L', c', n'⟩, -, X', ⟨L, ⟨q1, q2, q3⟩, y1, y2, y3⟩, stp⟩ := X.virtualBack hx r.ow (mvT r.hZ w1) (mvT r.hZ w2) (notFace_of_selects (args := #[]) (mvT r.hZ w5)) (mvT r.hZ w6) (mvT r.hZ w7) hy (hK vm0 r.hZ) qa qc (g := mkF m pc Ls st) rfl hsz (Steps.refl _) (argsL := argsL) (rest := rest) hlen hst (by show 2 * 0 + _ ≤ _; omega) hd (fun _ _ => ⟨ha, eT, hc, hsl⟩)
  dsimp only [Pt.U, Pt.locs, Pt.cells, Pt.slots] at X' q3 y1 y2 y3 stp
  subst q2 y1 y2 y3 hp
  rw [List.append_nil] at X'
  exact Run.stp stp (k v T' ⟨vm0, k0, locs, hx, X', q3, r⟩ q1)
end Kit
end Ow
end Jvm.Pilot.@@N@@


namespace Jvm.Pilot.@@N@@
open Jvm Jvm.ClassFile Sem Op Lib Jvm.Free Jvm.Stand Jvm.LawKit Jvm.RoadKit Bundle Jvm.Pilot.@@N@@.Jvm.D
namespace Ow
open StrChars StrChars.Road
abbrev wordsS : List Jvm.Cond := .stringLink ST 7 "" :: Bundle.stringAtoms
theorem e4_8 : decode New4.yB 8 = .ok (.aload_n 0, 1) := by decide +kernel
theorem e4_9 : decode New4.yB 9 = .ok (.ldc 7, 2) := by decide +kernel
theorem e4_11 : decode New4.yB 11 = .ok (.getfield 9, 3) := by decide +kernel
theorem e4_14 : decode New4.yB 14 = .ok (.putfield 9, 3) := by decide +kernel
theorem e4_17 : decode New4.yB 17 = .ok (.aload_n 0, 1) := by decide +kernel
theorem e4_18 : decode New4.yB 18 = .ok (.ldc 7, 2) := by decide +kernel
theorem e4_20 : decode New4.yB 20 = .ok (.getfield 15, 3) := by decide +kernel
theorem e4_23 : decode New4.yB 23 = .ok (.putfield 15, 3) := by decide +kernel
theorem e4_26 : decode New4.yB 26 = .ok (.return_, 1) := by decide +kernel
theorem pnS : plainName "java/lang/String" = true := by first | (simp [plainName, overriddenIn]; done) | decide +kernel
theorem ef4 (m : MethodId) (x b : Addr) : entryFrame m #[.ref x, .ref b, .int 0, .int 0, .null] 6 = mkF m 0 #[.val (.ref x), .val (.ref b), .val (.int 0), .val (.int 0), .val .null, .unset] [] := by first | (simp [entryFrame, mkF, argsToLocals, Value.category]; done) | rfl
theorem ef1 (m : MethodId) (x b : Addr) : entryFrame m #[.ref x, .ref b] 2 = mkF m 0 #[.val (.ref x), .val (.ref b)] [] := by first | (simp [entryFrame, mkF, argsToLocals, Value.category]; done) | rfl
section StrK
variable {p : Program} {l : Launch} {e : Env} {R : Room} {s : State} {m : MethodId} {args : Array Value} {below : List Frame} {meth : Method} {c : Code} {Z : State} {a0 : Array Value} {EL : List (String × Nat)} {own : String} {h0 : Heap} {ws : List Addr} {T T' : State} {h h' hB : Heap} {cells slots : Nat} {S : List Addr} {Q : Outcome → State → Prop} {pc pc' pc1 pc2 : Nat} {Ls l' : Array Slot} {rest st : List Value} {x y : Addr} {cs ds : List Int32}
/-- the String at x spells cs -/
def Str (Z : State) (h : Heap) (x : Addr) (cs : List Int32) : Prop :=
  Exa Z h x ST ∧ ∃ (t : Addr) (kb : ClassId) (cd N2 : Int32) (vs : List Value), Fld Z h x ST "value" "[B" (.ref t) ∧ Fld Z h x ST "coder" "B" (.int cd) ∧ Arv Z h t kb .byte N2 vs (.int 0) ∧ CodA cs cd N2 vs ∧ (∀ c ∈ cs, ¬ c < 0 ∧ ¬ (65535 : Int32) < c) ∧ cs.length ≤ 4000
theorem Str.ext (F : Str Z h x cs) (E : Ext h h') : Str Z h' x cs := by
  obtain ⟨a, t, kb, cd, N2, vs, q1, q2, q3, q4⟩ := F
  exact ⟨a.ext E, t, kb, cd, N2, vs, q1.ext E, q2.ext E, q3.ext E, q4⟩
theorem Str.low (A : Exa Z h x ST) {t : Addr} {kb : ClassId} {N : Int32} {n : Nat} (V : Fld Z h x ST "value" "[B" (.ref t)) (C : Fld Z h x ST "coder" "B" (.int 0)) (hn : cs.length = n) (hN : N = Int32.ofNat n) (K : Arv Z h t kb .byte N ((cs.map (fun c => c.toInt8.toInt32)).map Value.int) (.int 0)) (hp : ∀ c ∈ cs, ¬ c < 0 ∧ ¬ (255 : Int32) < c) (hl : n ≤ 4000) : Str Z h x cs := by
  subst hN hn
  refine ⟨A, t, kb, 0, _, _, V, C, K, codOf rfl fun c q => (hp c q).2, fun c q => ⟨(hp c q).1, fun z => (hp c q).2 ?_⟩, hl⟩
  have := Int32.lt_iff_toInt_lt.mp z
  rw [Int32.lt_iff_toInt_lt]
  have e1 : (65535 : Int32).toInt = 65535 := by decide
  have e2 : (255 : Int32).toInt = 255 := by decide
  omega
/-- new String(char[]): the constructor's call, of one to 4,000 signs below 256 -/
theorem w_strInitP (w : Wk p l e R s m args below meth c Z EL own h0 ws T h cells slots S) (hw1 : ∀ d ∈ StrChars.Road.words, d.before a0 Z = true) (wi : (Jvm.Cond.instantiable ST 4).before a0 Z = true) {index : Nat} (wl : (Jvm.Cond.methodLink own index New1.yN).before a0 Z = true) (wm : (Jvm.Cond.instanceMethod New1.yN).before a0 Z = true)
    {b : Addr} {v0 c0 : Value} {ka : ClassId} {N zc : Int32} {n W : Nat} {dv : Value} (E : Exa Z h x ST) (V : Fld Z h x ST "value" "[B" v0) (C : Fld Z h x ST "coder" "B" c0) (K : Arv Z h b ka .char N (cs.map Value.int) dv) (SC : Sta Z Z.heap ST "COMPACT_STRINGS" "Z" (.int zc)) (hz : ¬ zc = 0)
    (hn : cs.length = n) (hN : N = Int32.ofNat n) (h0n : 0 < n) (hl2 : n ≤ 4000) (hcs : ∀ c ∈ cs, ¬ c < 0 ∧ ¬ (255 : Int32) < c) (hxS : x ∈ S) (hx0 : x ∈ ws ∨ h0.size ≤ x) (hZx : Z.heap.size ≤ x) (hd : decode c.code pc = .ok (.invokespecial index, 3)) (hsz : Ls.size = c.maxLocals) (hW : (rest.map fun v => v.category).sum ≤ W) (hf : 4 ≤ R.frames) (hl : W + 65 ≤ R.locals) (hc : cells + 1 ≤ R.cells) (hsl : slots + n ≤ R.slots) (hp : pc + 3 = pc')
    (k : ∀ T' h', Wk p l e R s m args below meth c Z EL own h0 ws T' h' (cells + 1) (slots + n) S → Keep h h' [x] → Str Z h' x cs → Run p e below Q T' (mkF m pc' Ls rest)) : Run p e below Q T (mkF m pc Ls (.ref b :: .ref x :: rest)) := by
  obtain ⟨vm0, k0, locs, hx, X, eT, r⟩ := w
  obtain ⟨v, vm1, ⟨T', L', c', n'⟩, -, X', ⟨L, hQ, y1, y2, y3⟩, stp⟩ := X.specialBack hx (y := New1.yN) rfl r.ow (mvT r.hZ wl) (mvT r.hZ wm) (mvT r.hZ (hw1 _ (List.mem_of_getElem? (i := 0) rfl))) (by decide) (StrChars.Road.backV (W := W) r.hZ hw1 (kI := 4) wi (cs := cs) (bs := cs.map fun c => c.toInt8.toInt32) (n := n) (n0 := Z.heap.size) hZx r.old.1 E V C K (SC.ext r.old) hz hn hN h0n hl2 hcs rfl hf hl) (g := mkF m pc Ls (.ref b :: .ref x :: rest)) rfl hsz (Steps.refl _) (a := x) (argsL := [.ref b]) (rest := rest) (lenOf (by decide +kernel : parseMethodDescriptor "([C)V" = some ⟨[.array .char], none⟩) rfl) rfl (by show 2 * 0 + _ ≤ _; omega) hd (fun _ _ => ⟨rfl, eT, hc, hsl⟩)
  dsimp only [Pt.U, Pt.locs, Pt.cells, Pt.slots] at X' hQ y1 y2 y3 stp
  subst y1 y2 y3 hp
  obtain ⟨rfl, N', K', A, C', t, kb, -, -, -, V', B⟩ := hQ
  have Sx := (r.2.2.2.2.2.2.2.2.2 x hxS).2
  have hCr : CHr Z EL vm0 h vm0 T'.heap := CHr.keep K' (fun y q => by rw [List.mem_singleton.mp q]; exact Sx) r.ch
  obtain ⟨a1, a2, a3, a4, a5, a6, a7, a8, a9, a10⟩ := r
  have r' : Rs s m Z EL own h0 ws vm0 k0 (locs ++ L) T'.heap S := ⟨a1, Nat.le_trans a2 K'.1, a3, a4, a5.trans hCr, a6.app N', a7.trans K' (fun y q => by rw [List.mem_singleton.mp q]; exact hx0), a8, a9, fun y q => ⟨Nat.lt_of_lt_of_le (a10 y q).1 K'.1, hCr.safe (a10 y q).1 (a10 y q).2⟩⟩
  exact Run.stp stp (k T' T'.heap ⟨vm0, k0, _, hx, X', rfl, r'⟩ K' (Str.low A V' C' hn hN B hcs hl2))
/-- String.<init>(char[], int, int, Void) of an empty array -/
theorem init4_0 (hEL : EW Z a0 EL) (hmem : ("java/lang/String", 7) ∈ EL) (hw1 : ∀ d ∈ StrChars.Road.words, d.before a0 Z = true) (hw2 : ∀ d ∈ wordsS, d.before a0 Z = true) {x b : Addr} {v0 c0 : Value} (E : Exa Z h x ST) (V : Fld Z h x ST "value" "[B" v0) (C : Fld Z h x ST "coder" "B" c0) :
    Met l Z EL New4.yN New4.yB 6 none { frames := 1, cells := 4, slots := 8, locals := 12 } #[.ref x, .ref b, .int 0, .int 0, .null] h [x] [x] (fun v h' => v = none ∧ Exa Z h' x ST ∧ Fld Z h' x ST "coder" "B" (.int 0) ∧ ∃ t kb, Fld Z h' x ST "value" "[B" (.ref t) ∧ Arv Z h' t kb .byte 0 [] (.int 0)) := by
  have wS : ∀ d ∈ Bundle.stringAtoms, d.before a0 Z = true := fun d q => hw2 d (List.mem_cons_of_mem _ q)
  have wL : (Jvm.Cond.stringLink ST 7 "").before a0 Z = true := hw2 _ (List.mem_cons_self ..)
  have wi : (Jvm.Cond.instantiable ST 4).before a0 Z = true := wS _ (List.mem_of_getElem? (i := 1) rfl)
  have lv : (Jvm.Cond.laysFinal ST ST "value" "[B").before a0 Z = true := hw1 _ (List.mem_of_getElem? (i := 6) rfl)
  have lc : (Jvm.Cond.laysFinal ST ST "coder" "B").before a0 Z = true := hw1 _ (List.mem_of_getElem? (i := 8) rfl)
  have fv : (Jvm.Cond.fieldLink ST 9 ST "value" "[B").before a0 Z = true := hw1 _ (List.mem_of_getElem? (i := 7) rfl)
  have fc : (Jvm.Cond.fieldLink ST 15 ST "coder" "B").before a0 Z = true := hw1 _ (List.mem_of_getElem? (i := 9) rfl)
  refine Met.of (plainFor_of_name pnS) ?_
  intro p e s m below meth c T hnm hret hlk hby hml hs w
  refine Run.cast (ef4 m x b) ?_
  refine s_aload_n w (hb hby New4.d0) rfl rfl (pc' := 1) rfl ?_
  refine w_objInit w (hw1 _ (List.mem_of_getElem? (i := 10) rfl)) (hw1 _ (List.mem_of_getElem? (i := 11) rfl)) (hw1 _ (List.mem_of_getElem? (i := 12) rfl)) (hb hby New4.d1) (by rw [hml]; rfl) (by decide) (W := 0) (by decide) (by decide) (pc' := 4) rfl fun T w => ?_
  refine s_iload_n w (hb hby New4.d4) rfl (pc' := 5) rfl ?_
  refine s_if_ne w (hb hby New4.d5) (by decide) (pc1 := 8) rfl (pc2 := 27) rfl (fun _ => ?_) (fun q => absurd rfl q)
  refine s_aload_n w (hb hby e4_8) rfl rfl (pc' := 9) rfl ?_
  refine w_ldcS w hEL wL wS hmem (vs := []) (z := 0) (n := 0) ⟨by decide, rfl⟩ (by decide) rfl (by decide) (by decide) (hb hby e4_9) (pc' := 11) rfl (by decide) (by decide) fun T h1 q t kb w E1 A1 C1 V1 K1 N1 => ?_
  refine w_getF w fv Via.refl V1 (hb hby e4_11) (pc' := 14) rfl fun T w => ?_
  refine w_putF w fv Via.refl (V.ext E1) (E.ext E1) (Or.inr ⟨lv, rfl, hnm⟩) wi (ty := .array .byte) (by decide) rfl rfl (hb hby e4_14) (Or.inl (List.mem_singleton.mpr rfl)) (Or.inr (List.mem_singleton.mpr rfl)) (pc' := 17) rfl fun T h2 w W2 F2 X2 => ?_
  refine s_aload_n w (hb hby e4_17) rfl rfl (pc' := 18) rfl ?_
  refine w_ldcS w hEL wL wS hmem (vs := []) (z := 0) (n := 0) ⟨by decide, rfl⟩ (by decide) rfl (by decide) (by decide) (hb hby e4_18) (pc' := 20) rfl (by decide) (by decide) fun T h3 q' t' kb' w E3 A3 C3 V3 K3 N3 => ?_
  refine w_getF w fc Via.refl C3 (hb hby e4_20) (pc' := 23) rfl fun T w => ?_
  have ne : t ≠ x := fun z => (N1 x (List.mem_singleton.mpr rfl)).2 z.symm
  have sn : Jvm.RoadKit.slotOf Z ST "value" "[B" ≠ Jvm.RoadKit.slotOf Z ST "coder" "B" := slot_ne (Or.inr lv) (Or.inr lc) (by decide) (t := .array .byte) (t' := .byte) (by decide) (by decide)
  have C2 := (C.ext E1).other W2 (Or.inr sn.symm)
  refine w_putF w fc Via.refl (C2.ext E3) (X2.ext E3) (Or.inr ⟨lc, rfl, hnm⟩) wi (ty := .byte) (by decide) rfl rfl (hb hby e4_23) (Or.inl (List.mem_singleton.mpr rfl)) (Or.inr (List.mem_singleton.mpr rfl)) (pc' := 26) rfl fun T h4 w W4 F4 X4 => ?_
  refine w_return w hEL hs hlk hret (hb hby e4_26) (by decide) (by decide) ⟨rfl, X4, F4, t, kb, (F2.ext E3).other W4 (Or.inr sn), ((K1.other W2 ne).ext E3).other W4 ne⟩
theorem init1_0 (hEL : EW Z a0 EL) (hmem : ("java/lang/String", 7) ∈ EL) (hw1 : ∀ d ∈ StrChars.Road.words, d.before a0 Z = true) (hw2 : ∀ d ∈ wordsS, d.before a0 Z = true) {x b : Addr} {v0 c0 : Value} (E : Exa Z h x ST) (V : Fld Z h x ST "value" "[B" v0) (C : Fld Z h x ST "coder" "B" c0) {ka : ClassId} {vs : List Value} {dv : Value} (K : Arv Z h b ka .char 0 vs dv) :
    Met l Z EL New1.yN New1.yB 2 none { frames := 2, cells := 4, slots := 8, locals := 29 } #[.ref x, .ref b] h [x] [x] (fun v h' => v = none ∧ Exa Z h' x ST ∧ Fld Z h' x ST "coder" "B" (.int 0) ∧ ∃ t kb, Fld Z h' x ST "value" "[B" (.ref t) ∧ Arv Z h' t kb .byte 0 [] (.int 0)) := by
  refine Met.of (plainFor_of_name pnS) ?_
  intro p e s m below meth c T hnm hret hlk hby hml hs w
  refine Run.cast (ef1 m x b) ?_
  refine s_aload_n w (hb hby New1.d0) rfl rfl (pc' := 1) rfl ?_
  refine s_aload_n w (hb hby New1.d1) rfl rfl (pc' := 2) rfl ?_
  refine s_iconst w (hb hby New1.d2) (v := 0) rfl (pc' := 3) rfl ?_
  refine s_aload_n w (hb hby New1.d3) rfl rfl (pc' := 4) rfl ?_
  refine w_len w K (hb hby New1.d4) (pc' := 5) rfl ?_
  refine s_anull w (hb hby New1.d5) (pc' := 6) rfl ?_
  refine w_special w hEL (y := New4.yN) rfl (hw1 _ (List.mem_of_getElem? (i := 2) rfl)) (hw1 _ (List.mem_of_getElem? (i := 3) rfl)) (hw1 _ (List.mem_of_getElem? (i := 1) rfl)) (hw1 _ (List.mem_of_getElem? (i := 4) rfl)) (by decide) (init4_0 (b := b) hEL hmem hw1 hw2 E V C) (fun _ q => q) (fun _ q => Or.inl q) (argsL := [.ref b, .int 0, .int 0, .null]) (rest := []) (lenOf (by decide +kernel : parseMethodDescriptor "([CIILjava/lang/Void;)V" = some ⟨[.array .char, .int, .int, .object "java/lang/Void"], none⟩) rfl) rfl rfl (hb hby New1.d6) (by rw [hml]; rfl) (W := 0) (by decide) (by decide) (by decide) (by decide) (by decide) (pc' := 9) rfl fun v T h' w K' P' => ?_
  obtain ⟨rfl, q⟩ := P'
  exact w_return w hEL hs hlk hret (hb hby New1.d9) (by decide) (by decide) ⟨rfl, q⟩
/-- new String(char[]): the constructor's call, of no sign or of up to 4,000 signs below 256 -/
theorem w_strInit (w : Wk p l e R s m args below meth c Z EL own h0 ws T h cells slots S) (hEL : EW Z a0 EL) (hmem : ("java/lang/String", 7) ∈ EL) (hw1 : ∀ d ∈ StrChars.Road.words, d.before a0 Z = true) (hw2 : ∀ d ∈ wordsS, d.before a0 Z = true) {index : Nat} (wl : (Jvm.Cond.methodLink own index New1.yN).before a0 Z = true) (wm : (Jvm.Cond.instanceMethod New1.yN).before a0 Z = true)
    {b : Addr} {v0 c0 : Value} {ka : ClassId} {N zc : Int32} {n W : Nat} {dv : Value} (E : Exa Z h x ST) (V : Fld Z h x ST "value" "[B" v0) (C : Fld Z h x ST "coder" "B" c0) (K : Arv Z h b ka .char N (cs.map Value.int) dv) (SC : Sta Z Z.heap ST "COMPACT_STRINGS" "Z" (.int zc)) (hz : ¬ zc = 0)
    (hn : cs.length = n) (hN : N = Int32.ofNat n) (hl2 : n ≤ 4000) (hcs : ∀ c ∈ cs, ¬ c < 0 ∧ ¬ (255 : Int32) < c) (hxS : x ∈ S) (hx0 : x ∈ ws ∨ h0.size ≤ x) (hZx : Z.heap.size ≤ x) (hd : decode c.code pc = .ok (.invokespecial index, 3)) (hsz : Ls.size = c.maxLocals) (hW : (rest.map fun v => v.category).sum ≤ W) (hf : 4 ≤ R.frames) (hl : W + 65 ≤ R.locals) (hc : cells + 4 ≤ R.cells) (hsl : slots + (n + 8) ≤ R.slots) (hp : pc + 3 = pc')
    (k : ∀ T' h', Wk p l e R s m args below meth c Z EL own h0 ws T' h' (cells + 4) (slots + (n + 8)) S → Keep h h' [x] → Str Z h' x cs → Run p e below Q T' (mkF m pc' Ls rest)) : Run p e below Q T (mkF m pc Ls (.ref b :: .ref x :: rest)) := by
  by_cases h0n : n = 0
  · subst h0n
    obtain rfl : cs = [] := List.eq_nil_of_length_eq_zero hn
    subst hN
    refine w_special w hEL (y := New1.yN) rfl wl wm (hw1 _ (List.mem_of_getElem? (i := 1) rfl)) (hw1 _ (List.mem_of_getElem? (i := 0) rfl)) (by decide) (init1_0 hEL hmem hw1 hw2 E V C K) (fun y q => by rw [List.mem_singleton.mp q]; exact hxS) (fun y q => by rw [List.mem_singleton.mp q]; exact hx0) (argsL := [.ref b]) (rest := rest) (lenOf (by decide +kernel : parseMethodDescriptor "([C)V" = some ⟨[.array .char], none⟩) rfl) rfl rfl hd hsz (W := W) hW (by show 2 + 1 ≤ _; omega) (by show W + (2 + 11) + 29 ≤ _; omega) hc (by show slots + 8 ≤ _; omega) hp fun v T' h' w' K' P' => ?_
    obtain ⟨rfl, A, C', t, kb, V', B⟩ := P'
    exact k T' h' (w'.mono (Nat.le_refl _) (by show slots + 8 ≤ slots + (0 + 8); omega)) K' (Str.low A V' C' rfl rfl B hcs (by decide))
  · exact w_strInitP w hw1 (hw2 _ (List.mem_of_getElem? (i := 2) rfl)) wl wm E V C K SC hz hn hN (Nat.pos_of_ne_zero h0n) hl2 hcs hxS hx0 hZx hd hsz hW hf hl (by omega) (by omega) hp fun T' h' w' => k T' h' (w'.mono (by omega) (by omega))
end StrK
end Ow
end Jvm.Pilot.@@N@@


namespace Jvm.Pilot.@@N@@
open Jvm Jvm.ClassFile Sem Op Lib Jvm.Free Jvm.Stand Jvm.LawKit Jvm.RoadKit Bundle Jvm.Pilot.@@N@@.Jvm.D
namespace Ow
theorem nf_of {s : State} {a : Array Value} {C : String} {y y5 y6 : MethodName} (w : (Jvm.Cond.selects C y5 y6).before a s = true) (hc : y6.cls = y.cls) : NotFace s y := fun r0 h0 => by
  obtain ⟨c2, r2, m2, q1, q2, q3, q4, kP, hkP, hkPi⟩ := Cond.selects_spec w
  have e1 := findClass_of_methodNamed h0
  have e2 := findClass_of_methodNamed q3
  rw [hc] at e2
  have e3 : m2.cls = r0.cls := Option.some.inj (e2.symm.trans e1)
  rw [e3] at hkP
  exact ⟨kP, hkP, hkPi⟩
theorem same_of {s : State} {a : Array Value} {C : String} {y y5 y6 : MethodName} (w1 : (Jvm.Cond.declares y).before a s = true) (w : (Jvm.Cond.selects C y5 y6).before a s = true) (hc : y6.cls = y.cls) (hy : y.cls ≠ "java/lang/invoke/MethodHandle" ∧ y.cls ≠ "java/lang/invoke/VarHandle") : (Jvm.Cond.sameMethod y.cls y.cls y.name y.desc).before a s = true := by
  obtain ⟨m, me, hn, -⟩ := Cond.declares_spec w1
  have hf := State.methodFound?_of_named hn hy
  obtain ⟨k, hk, hi⟩ := nf_of w hc m hn
  have e1 := findClass_of_methodNamed hn
  have hn' : s.methodNamed? ⟨y.cls, y.name, y.desc⟩ = some m := hn
  simp [Cond.before, Cond.holds, Cond.value, e1, hf, hn', hk, hi]
theorem sel_priv {s : State} {a : Array Value} {C : String} {y y5 y6 : MethodName} (w1 : (Jvm.Cond.instanceMethod y).before a s = true) (wp : (Jvm.Cond.privateMethod y).before a s = true) (w : (Jvm.Cond.selects C y5 y6).before a s = true) (hc : y6.cls = y.cls) (hy : y.cls ≠ "java/lang/invoke/MethodHandle" ∧ y.cls ≠ "java/lang/invoke/VarHandle") : (Jvm.Cond.selects y.cls y y).before a s = true := by
  obtain ⟨m, me, hn, hm, -⟩ := Cond.instanceMethod_spec w1
  have hf := State.methodFound?_of_named hn hy
  obtain ⟨k, hk, hi⟩ := nf_of w hc m hn
  have e1 := findClass_of_methodNamed hn
  have hp := Cond.privateMethod_at wp m me hn hm
  have hs : selectMethod {} s.vm m.cls m = .method m := selectMethod_private hm hp
  simp [Cond.before, Cond.holds, Cond.value, e1, hf, hn, hk, hi, hs]
section Kit4
variable {p : Program} {l : Launch} {e : Env} {R : Room} {s : State} {m : MethodId} {args : Array Value} {below : List Frame} {meth : Method} {c : Code} {Z : State} {a0 : Array Value} {EL : List (String × Nat)} {own : String} {h0 : Heap} {ws : List Addr} {T T' : State} {h h' hB : Heap} {cells slots : Nat} {S : List Addr} {Q : Outcome → State → Prop} {pc pc' pc1 pc2 : Nat} {Ls l' : Array Slot} {rest st : List Value}
theorem w_virtualK (w : Wk p l e R s m args below meth c Z EL own h0 ws T h cells slots S) (hEL : EW Z a0 EL) {index : Nat} {y y' y5 y6 : MethodName} {C C5 : String} {bytes : ByteArray} {maxL : Nat} {ret : Option FieldType} {rm : Room} {as' : Array Value} {S' ws' : List Addr} {P : Option Value → Heap → List Addr → Prop} {W : Nat} {a : Addr} {argsL : List Value}
    (w1 : (Jvm.Cond.methodLink own index y).before a0 Z = true) (w2 : (Jvm.Cond.declares y).before a0 Z = true) (w5 : (Jvm.Cond.selects C5 y5 y6).before a0 Z = true) (h5 : y6.cls = y.cls) (w6 : (Jvm.Cond.selects C y y').before a0 Z = true) (w7 : (Jvm.Cond.instanceMethod y').before a0 Z = true) (w3 : (Jvm.Cond.initialized y'.cls).before a0 Z = true) (w4 : (Jvm.Cond.code y' bytes maxL ret).before a0 Z = true) (hy : y.cls ≠ "java/lang/invoke/MethodHandle" ∧ y.cls ≠ "java/lang/invoke/VarHandle")
    (E : Exa Z h a C) (hM : MetN l Z EL y' bytes maxL ret rm as' h S' ws' P) (hS : ∀ x ∈ S', x ∈ S) (hws : ∀ x ∈ ws', x ∈ ws ∨ h0.size ≤ x) (hlen : ∀ sig, parseMethodDescriptor y.desc = some sig → argsL.length = sig.parameters.length) (ha : (Value.ref a :: argsL).toArray = as') (hst : st = argsL.reverse ++ .ref a :: rest) (hd : decode c.code pc = .ok (.invokevirtual index, 3)) (hsz : Ls.size = c.maxLocals)
    (hW : (rest.map fun v => v.category).sum ≤ W) (hf : rm.frames + 1 ≤ R.frames) (hl : W + (maxL + 11) + rm.locals ≤ R.locals) (hc : cells + rm.cells ≤ R.cells) (hsl : slots + rm.slots ≤ R.slots) (hp : pc + 3 = pc')
    (k : ∀ v N T' h', Wk p l e R s m args below meth c Z EL own h0 ws T' h' (cells + rm.cells) (slots + rm.slots) (N ++ S) → Keep h h' ws' → P v h' N → Run p e below Q T' (mkF m pc' Ls (v.toList ++ rest))) : Run p e below Q T (mkF m pc Ls st) := by
  obtain ⟨vm0, k0, locs, hx, X, eT, r⟩ := w
  have hn := r.old
  have hb := MetN.back (R := R) (p := p) (e := e) (below := below) (s := s) (args := args) (len := 3) (W := W) hM r.hZ w4 w3 hf hl hEL r.ch hn (fun x q => (hws x q).elim (r.2.2.2.2.2.2.2.2.1 x) (Nat.le_trans r.2.2.2.2.2.2.2.1.1)) (fun x q => r.2.2.2.2.2.2.2.2.2 x (hS x q))
  obtain ⟨cq, kq, qa, qb, qc⟩ := isOf r.hZ eT E
  obtain ⟨v, vm1, ⟨T', L', c', n'⟩, -, X', hSi, hg, ⟨L, ⟨q1, q2, N, q3, qN⟩, y1, y2, y3, hC⟩, stp⟩ := X.virtualBackS hx r.ow (mvT r.hZ w1) (mvT r.hZ w2) (nf_of (a := #[]) (mvT r.hZ w5) h5) (mvT r.hZ w6) (mvT r.hZ w7) hy hb qa qc (g := mkF m pc Ls st) rfl hsz (Steps.refl _) (argsL := argsL) (rest := rest) hlen hst (by show 2 * 0 + _ ≤ _; omega) hd (fun _ _ => ⟨ha, eT, hc, hsl⟩)
  dsimp only [Pt.U, Pt.locs, Pt.cells, Pt.slots] at X' hSi hg q2 q3 qN y1 y2 y3 hC stp
  subst y1 y2 y3 hp
  exact Run.stp stp (k v N T' T'.heap ⟨T'.vm, _, _, hx, X', rfl, (r.call hSi hC q1 q2 hws).adds qN⟩ q2 q3)
theorem w_privateN (w : Wk p l e R s m args below meth c Z EL own h0 ws T h cells slots S) (hEL : EW Z a0 EL) {index : Nat} {y y5 y6 : MethodName} {C C5 : String} {bytes : ByteArray} {maxL : Nat} {ret : Option FieldType} {rm : Room} {as' : Array Value} {S' ws' : List Addr} {P : Option Value → Heap → List Addr → Prop} {W : Nat} {a : Addr} {argsL : List Value}
    (w1 : (Jvm.Cond.methodLink own index y).before a0 Z = true) (w5 : (Jvm.Cond.selects C5 y5 y6).before a0 Z = true) (h5 : y6.cls = y.cls) (w8 : (Jvm.Cond.privateMethod y).before a0 Z = true) (w7 : (Jvm.Cond.instanceMethod y).before a0 Z = true) (w3 : (Jvm.Cond.initialized y.cls).before a0 Z = true) (w4 : (Jvm.Cond.code y bytes maxL ret).before a0 Z = true) (hy : y.cls ≠ "java/lang/invoke/MethodHandle" ∧ y.cls ≠ "java/lang/invoke/VarHandle")
    (E : Exa Z h a C) (hM : MetN l Z EL y bytes maxL ret rm as' h S' ws' P) (hS : ∀ x ∈ S', x ∈ S) (hws : ∀ x ∈ ws', x ∈ ws ∨ h0.size ≤ x) (hlen : ∀ sig, parseMethodDescriptor y.desc = some sig → argsL.length = sig.parameters.length) (ha : (Value.ref a :: argsL).toArray = as') (hst : st = argsL.reverse ++ .ref a :: rest) (hd : decode c.code pc = .ok (.invokevirtual index, 3)) (hsz : Ls.size = c.maxLocals)
    (hW : (rest.map fun v => v.category).sum ≤ W) (hf : rm.frames + 1 ≤ R.frames) (hl : W + (maxL + 11) + rm.locals ≤ R.locals) (hc : cells + rm.cells ≤ R.cells) (hsl : slots + rm.slots ≤ R.slots) (hp : pc + 3 = pc')
    (k : ∀ v N T' h', Wk p l e R s m args below meth c Z EL own h0 ws T' h' (cells + rm.cells) (slots + rm.slots) (N ++ S) → Keep h h' ws' → P v h' N → Run p e below Q T' (mkF m pc' Ls (v.toList ++ rest))) : Run p e below Q T (mkF m pc Ls st) := by
  obtain ⟨vm0, k0, locs, hx, X, eT, r⟩ := w
  have hn := r.old
  have hb := MetN.back (R := R) (p := p) (e := e) (below := below) (s := s) (args := args) (len := 3) (W := W) hM r.hZ w4 w3 hf hl hEL r.ch hn (fun x q => (hws x q).elim (r.2.2.2.2.2.2.2.2.1 x) (Nat.le_trans r.2.2.2.2.2.2.2.1.1)) (fun x q => r.2.2.2.2.2.2.2.2.2 x (hS x q))
  obtain ⟨cell, kc, g1, g2, g3, g4, -⟩ := E
  obtain ⟨v, vm1, ⟨T', L', c', n'⟩, -, X', hSi, hg, ⟨L, ⟨q1, q2, N, q3, qN⟩, y1, y2, y3, hC⟩, stp⟩ := X.privateBackS hx r.ow (mvT r.hZ w1) (mvT r.hZ w7) (sel_priv (mvT r.hZ w7) (mvT r.hZ w8) (mvT r.hZ w5) h5 hy) (Cond.privateMethod_at (args := #[]) (mvT r.hZ w8)) (mvT r.hZ w4) hy hb (g := mkF m pc Ls st) rfl hsz (Steps.refl _) (a := a) (cell := cell) (by rw [eT]; exact g1) (fun q e => by rw [e] at g4; cases g4) (argsL := argsL) (rest := rest) hlen hst (by show 2 * 0 + _ ≤ _; omega) hd (fun _ _ => ⟨ha, eT, hc, hsl⟩)
  dsimp only [Pt.U, Pt.locs, Pt.cells, Pt.slots] at X' hSi hg q2 q3 qN y1 y2 y3 hC stp
  subst y1 y2 y3 hp
  exact Run.stp stp (k v N T' T'.heap ⟨T'.vm, _, _, hx, X', rfl, (r.call hSi hC q1 q2 hws).adds qN⟩ q2 q3)
theorem w_superN (w : Wk p l e R s m args below meth c Z EL own h0 ws T h cells slots S) (hEL : EW Z a0 EL) {index : Nat} {y y5 y6 : MethodName} {C C5 : String} {bytes : ByteArray} {maxL : Nat} {ret : Option FieldType} {rm : Room} {as' : Array Value} {S' ws' : List Addr} {P : Option Value → Heap → List Addr → Prop} {W : Nat} {a : Addr} {argsL : List Value}
    (hy1 : y.name ≠ "<init>") (w1 : (Jvm.Cond.methodLink own index y).before a0 Z = true) (w2 : (Jvm.Cond.declares y).before a0 Z = true) (w5 : (Jvm.Cond.selects C5 y5 y6).before a0 Z = true) (h5 : y6.cls = y.cls) (w8 : (Jvm.Cond.superclass own y.cls).before a0 Z = true) (w7 : (Jvm.Cond.instanceMethod y).before a0 Z = true) (w3 : (Jvm.Cond.initialized y.cls).before a0 Z = true) (w4 : (Jvm.Cond.code y bytes maxL ret).before a0 Z = true) (hy : y.cls ≠ "java/lang/invoke/MethodHandle" ∧ y.cls ≠ "java/lang/invoke/VarHandle")
    (E : Exa Z h a C) (hM : MetN l Z EL y bytes maxL ret rm as' h S' ws' P) (hS : ∀ x ∈ S', x ∈ S) (hws : ∀ x ∈ ws', x ∈ ws ∨ h0.size ≤ x) (hlen : ∀ sig, parseMethodDescriptor y.desc = some sig → argsL.length = sig.parameters.length) (ha : (Value.ref a :: argsL).toArray = as') (hst : st = argsL.reverse ++ .ref a :: rest) (hd : decode c.code pc = .ok (.invokespecial index, 3)) (hsz : Ls.size = c.maxLocals)
    (hW : (rest.map fun v => v.category).sum ≤ W) (hf : rm.frames + 1 ≤ R.frames) (hl : W + (maxL + 11) + rm.locals ≤ R.locals) (hc : cells + rm.cells ≤ R.cells) (hsl : slots + rm.slots ≤ R.slots) (hp : pc + 3 = pc')
    (k : ∀ v N T' h', Wk p l e R s m args below meth c Z EL own h0 ws T' h' (cells + rm.cells) (slots + rm.slots) (N ++ S) → Keep h h' ws' → P v h' N → Run p e below Q T' (mkF m pc' Ls (v.toList ++ rest))) : Run p e below Q T (mkF m pc Ls st) := by
  obtain ⟨vm0, k0, locs, hx, X, eT, r⟩ := w
  have hn := r.old
  have hb := MetN.back (R := R) (p := p) (e := e) (below := below) (s := s) (args := args) (len := 3) (W := W) hM r.hZ w4 w3 hf hl hEL r.ch hn (fun x q => (hws x q).elim (r.2.2.2.2.2.2.2.2.1 x) (Nat.le_trans r.2.2.2.2.2.2.2.1.1)) (fun x q => r.2.2.2.2.2.2.2.2.2 x (hS x q))
  obtain ⟨v, vm1, ⟨T', L', c', n'⟩, -, X', hSi, hg, ⟨L, ⟨q1, q2, N, q3, qN⟩, y1, y2, y3, hC⟩, stp⟩ := superBackS X hx r.hZ r.ow w1 (same_of w2 w5 h5 hy) w7 w8 hy1 hb eT (Ins.self E) (g := mkF m pc Ls st) rfl hsz w4 (argsL := argsL) (rest := rest) hlen hst (by show 2 * 0 + _ ≤ _; omega) hd (fun _ _ => ⟨ha, eT, hc, hsl⟩)
  dsimp only [Pt.U, Pt.locs, Pt.cells, Pt.slots] at X' hSi hg q2 q3 qN y1 y2 y3 hC stp
  subst y1 y2 y3 hp
  exact Run.stp stp (k v N T' T'.heap ⟨T'.vm, _, _, hx, X', rfl, (r.call hSi hC q1 q2 hws).adds qN⟩ q2 q3)
/-- System.arraycopy of bytes -/
theorem w_copyB (w : Wk p l e R s m args below meth c Z EL own h0 ws T h cells slots S) {index : Nat} (w1 : (Jvm.Cond.methodLink own index Jvm.Stand.acN).before a0 Z = true) (w2 : (Jvm.Cond.native Jvm.Stand.acN).before a0 Z = true) (w3 : (Jvm.Cond.static Jvm.Stand.acN).before a0 Z = true) (w4 : (Jvm.Cond.initialized "java/lang/System").before a0 Z = true)
    {a b : Addr} {ka kb : ClassId} {z z' sp dp nn : Int32} {vs vd us : List Value} {dv dd : Value} {is id n W : Nat} (A : Arv Z h a ka .byte z vs dv) (B : Arv Z h b kb .byte z' vd dd) (h1 : sp = Int32.ofNat is) (h2 : dp = Int32.ofNat id) (h3 : nn = Int32.ofNat n) (b1 : is ≤ 4000) (b2 : id ≤ 4000) (b3 : n ≤ 4000)
    (h4 : is + n ≤ z.toNatClampNeg) (h5 : id + n ≤ z'.toNatClampNeg) (hus : us = (List.range n).map fun i => vs.getD (is + i) dv) (hlv : id + n ≤ vd.length) (hS : b ∈ S) (q : b ∈ ws ∨ h0.size ≤ b) (hst : st = .int nn :: .int dp :: .ref b :: .int sp :: .ref a :: rest) (hd : decode c.code pc = .ok (.invokestatic index, 3)) (hsz : Ls.size = c.maxLocals)
    (hf : 1 ≤ R.frames) (hW : (rest.map fun v => v.category).sum ≤ W) (hlo : W + (nativeFrameWords "java/lang/System" "arraycopy" 5 + 11) ≤ R.locals) (hp : pc + 3 = pc')
    (k : ∀ T' h', Wk p l e R s m args below meth c Z EL own h0 ws T' h' cells slots S → Keep h h' [b] → Arv Z h' b kb .byte z' (vd.take id ++ us ++ vd.drop (id + n)) dd → Run p e below Q T' (mkF m pc' Ls rest)) : Run p e below Q T (mkF m pc Ls st) := by
  obtain ⟨vm0, k0, locs, hx, X, eT, r⟩ := w
  have cl : ∀ j : Nat, j ≤ 4000 → (Int32.ofNat j).toNatClampNeg = j := fun j hj => by
    show (Int32.ofNat j).toInt.toNat = j
    rw [Int32.toInt_ofNat_of_lt (by omega)]; rfl
  have nl : ∀ j : Nat, j ≤ 4000 → ¬ (Int32.ofNat j) < 0 := fun j hj => by
    have e : (0 : Int32).toInt = 0 := rfl
    rw [Int32.lt_iff_toInt_lt, Int32.toInt_ofNat_of_lt (by omega), e]; omega
  subst h1 h2 h3 hp hst
  obtain ⟨a1, a2, a3, a4, a5, a6, a7, a8, a9, a10⟩ := r
  have ge : Z.heap.size ≤ b := q.elim (a9 b) (fun z => Nat.le_trans a8.1 z)
  obtain ⟨T', h', L, X', e', N', K', B', stp⟩ := cpA X hx a3 a4 w1 w2 w3 w4 eT A B (Or.inl ⟨rfl, rfl⟩) (nl is b1) (nl id b2) (nl n b3) (by rw [cl is b1, cl n b3]; exact h4) (by rw [cl id b2, cl n b3]; exact h5) (us := us) (by rw [cl is b1, cl n b3]; exact hus) (by rw [cl id b2, cl n b3]; exact hlv) (n0 := Z.heap.size) a6 ge (g := mkF m pc Ls (.int (Int32.ofNat n) :: .int (Int32.ofNat id) :: .ref b :: .int (Int32.ofNat is) :: .ref a :: rest)) rfl hsz rfl hd hf (W := W) (by show 2 * 0 + _ ≤ _; omega) hlo
  rw [cl id b2, cl n b3] at B'
  have Sb := (a10 b hS).2
  have hCr : CHr Z EL vm0 h vm0 h' := CHr.keep K' (fun y z => by rw [List.mem_singleton.mp z]; exact Sb) a5.1
  have r' : Rs s m Z EL own h0 ws vm0 k0 L h' S := ⟨a1, Nat.le_trans a2 K'.1, a3, a4, a5.trans hCr, N', a7.trans K' (fun y z => by rw [List.mem_singleton.mp z]; exact q), a8, a9, fun y z => ⟨Nat.lt_of_lt_of_le (a10 y z).1 K'.1, hCr.safe (a10 y z).1 (a10 y z).2⟩⟩
  exact Run.to stp (k T' h' ⟨vm0, k0, L, hx, X', e', r'⟩ K' B')
end Kit4
end Ow
end Jvm.Pilot.@@N@@

namespace Jvm.Pilot.@@N@@
open Jvm Jvm.ClassFile Sem Op Lib Jvm.Free Jvm.Stand Jvm.LawKit Jvm.RoadKit Bundle Jvm.Pilot.@@N@@.Jvm.D
namespace Ow
open StrChars StrChars.Road

/-! plain facts on ints -/
def Lat (c : Int32) : Prop := ¬ c < 0 ∧ ¬ (255 : Int32) < c
theorem i32_0 : (0 : Int32).toInt = 0 := by decide
theorem i32_255 : (255 : Int32).toInt = 255 := by decide
theorem lat_iff {c : Int32} : Lat c ↔ 0 ≤ c.toInt ∧ c.toInt ≤ 255 := by
  unfold Lat
  rw [Int32.lt_iff_toInt_lt, Int32.lt_iff_toInt_lt, i32_0, i32_255]
  omega
theorem nar_char (x : Int32) : nar .char x = x.toUInt32.toUInt16.toUInt32.toInt32 := rfl
theorem nar_id {c : Int32} (h : 0 ≤ c.toInt ∧ c.toInt < 65536) : nar .char c = c := by
  have q := c_i2c c
  rw [← nar_char] at q
  rw [← Int32.toInt_inj]
  omega
theorem Lat.nar {c : Int32} (h : Lat c) : nar .char c = c := nar_id (by have := lat_iff.mp h; omega)
theorem lat_mask (x : Int32) : Lat (Jvm.RoadKit.nar .char (x &&& 255)) := by
  have q := c_i2c (x &&& 255)
  rw [← nar_char] at q
  have m := c_mask x 255 8 (by decide) (by decide)
  rw [lat_iff]
  omega
theorem mask_le (x : Int32) (m : Int32) (k : Nat) (hk : k ≤ 31) (hm : m.toBitVec.toNat = 2 ^ k - 1) : 0 ≤ (x &&& m).toInt ∧ (x &&& m).toInt < (2 ^ k : Nat) := by
  rw [c_mask x m k hk hm]
  have : (0 : Int) < (2 ^ k : Nat) := by exact_mod_cast Nat.pos_of_ne_zero (by simp)
  exact ⟨Int.emod_nonneg _ (by omega), Int.emod_lt_of_pos _ this⟩
theorem toInt_eq {x y : Int32} {n : Int} (h : x.toInt = n) (hy : y.toInt = n) : x = y := Int32.toInt_inj.mp (h.trans hy.symm)
theorem and3 (x : Int32) : x &&& 3 = 0 ∨ x &&& 3 = 1 ∨ x &&& 3 = 2 ∨ x &&& 3 = 3 := by
  have m := mask_le x 3 2 (by decide) (by decide)
  have h : (x &&& 3).toInt = 0 ∨ (x &&& 3).toInt = 1 ∨ (x &&& 3).toInt = 2 ∨ (x &&& 3).toInt = 3 := by omega
  rcases h with h | h | h | h
  · exact Or.inl (toInt_eq h (by decide))
  · exact Or.inr (Or.inl (toInt_eq h (by decide)))
  · exact Or.inr (Or.inr (Or.inl (toInt_eq h (by decide))))
  · exact Or.inr (Or.inr (Or.inr (toInt_eq h (by decide))))
theorem rem3 (x : Int32) : (x &&& 3) % 3 = 0 ∨ (x &&& 3) % 3 = 1 ∨ (x &&& 3) % 3 = 2 := by
  rcases and3 x with h | h | h | h <;> rw [h] <;> decide
theorem ne_int {args : Array Value} {s : State} {t : Term} {n x : Int32} (ht : t.eval args s none [] s = some (.int x)) (h : (Jvm.Cond.not (.eq t (.int n))).before args s = true) : ¬ x = n := by
  intro q; subst q
  have h1 := not_v (Cond.before_iff.mp h)
  have hi : (Term.int x).eval args s none [] s = some (.int x) := rfl
  simp only [Jvm.Cond.value, ht, hi] at h1
  simp at h1
theorem eq_int {args : Array Value} {s : State} {t : Term} {n : Int32} (h : (Jvm.Cond.eq t (.int n)).value args s none s [] = some true) : t.eval args s none [] s = some (.int n) := by
  cases ht : t.eval args s none [] s with
  | none => simp [Jvm.Cond.value, ht] at h
  | some v => cases v <;> simp [Jvm.Cond.value, ht, Term.eval] at h ⊢; exact h
theorem flag {e : Int32} {A : Prop} (h : (e = 1 ∧ A) ∨ (e = 0 ∧ ¬ A)) : ¬ e = 0 ↔ A := by
  rcases h with ⟨rfl, q⟩ | ⟨rfl, q⟩
  · exact ⟨fun _ => q, fun _ => by decide⟩
  · exact ⟨fun z => absurd rfl z, fun z => absurd z q⟩
theorem val {e f : Int32} {A B : Prop} [Decidable B] (h : (e = 1 ∧ A) ∨ (e = 0 ∧ ¬ A)) (hf : (if B then (1 : Int32) else 0) = f) (hab : B ↔ A) : f = e := by
  rw [← hf]
  rcases h with ⟨rfl, q⟩ | ⟨rfl, q⟩
  · exact if_pos (hab.mpr q)
  · exact if_neg fun z => q (hab.mp z)

theorem sub1 : ∀ d ∈ StrChars.Road.words, d ∈ tables_1 := by decide +kernel
theorem subA : ∀ d ∈ Bundle.stringAtoms, d ∈ tables_1 := by decide +kernel
theorem sub2 : ∀ d ∈ wordsS, d ∈ tables_1 := by decide +kernel
theorem hmem : ("java/lang/String", 7) ∈ consts_1 := by decide
def Gl (Z : State) (a0 : Array Value) (zc : Int32) (fm : Value) : Prop :=
  (∀ d ∈ tables_1, d.before a0 Z = true) ∧ EW Z a0 consts_1 ∧ Sta Z Z.heap ST "COMPACT_STRINGS" "Z" (.int zc) ∧ ¬ zc = 0 ∧ (Sta Z Z.heap "jdk/internal/util/Preconditions" "SIOOBE_FORMATTER" "Ljava/util/function/BiFunction;" fm) ∧ (fm.isRef = true)
abbrev PDP : String := "com/example/minder/minder/http/PdpIdentifier"
abbrev SD : String := "Ljava/lang/String;"
theorem Str.lat {Z : State} {h : Heap} {x : Addr} {cs : List Int32} (F : Str Z h x cs) (hc : ∀ c ∈ cs, Lat c) : ∃ t kb, Fld Z h x ST "value" "[B" (.ref t) ∧ Fld Z h x ST "coder" "B" (.int 0) ∧ Arv Z h t kb .byte (Int32.ofNat cs.length) (cs.map fun c => Value.int (lo8 c)) (.int 0) ∧ cs.length ≤ 4000 := by
  obtain ⟨a, t, kb, cd, N2, vs, q1, q2, q3, q4, q5, q6⟩ := F
  rcases q4 with ⟨rfl, rfl, rfl, -⟩ | ⟨-, -, -, c, z1, z2⟩
  · exact ⟨t, kb, q1, q2, q3, q6⟩
  · exact absurd z2 (hc c z1).2
theorem ofNat_lt {n : Nat} (h : n ≤ 4000) : ¬ (Int32.ofNat n) < 0 := by
  rw [Int32.lt_iff_toInt_lt, Int32.toInt_ofNat_of_lt (by omega), i32_0]; omega
theorem ofNat_nat {n : Nat} (h : n ≤ 4000) : (Int32.ofNat n).toNatClampNeg = n := by
  show (Int32.ofNat n).toInt.toNat = n
  rw [Int32.toInt_ofNat_of_lt (by omega)]; rfl
theorem ofNat_cmp {n k : Nat} (h : n ≤ 4000) (h' : k ≤ 4000) : Int32.ofNat n < Int32.ofNat k ↔ n < k := by
  rw [Int32.lt_iff_toInt_lt, Int32.toInt_ofNat_of_lt (by omega), Int32.toInt_ofNat_of_lt (by omega)]; omega
theorem ofNat_succ (n : Nat) : Int32.ofNat n + 1 = Int32.ofNat (n + 1) := by
  rw [Int32.ofNat_add]; rfl

theorem subL : ∀ d ∈ StrChars.Road.wordsLen, d ∈ tables_1 := by decide +kernel
theorem nar_byte (x : Int32) : nar .byte x.toInt8.toInt32 = x.toInt8.toInt32 := by show x.toInt8.toInt32.toInt8.toInt32 = _; simp
abbrev SBC : String := "java/lang/StringBuilder"
abbrev ASB : String := "java/lang/AbstractStringBuilder"
def low (cs : List Int32) : List Value := cs.map fun c => Value.int (lo8 c)
def room_ (cs : List Int32) (cap : Nat) : List Value := low cs ++ List.replicate (cap - cs.length) (.int 0)
theorem low_len (cs : List Int32) : (low cs).length = cs.length := by simp [low]
theorem room_len {cs : List Int32} {cap : Nat} (h : cs.length ≤ cap) : (room_ cs cap).length = cap := by simp [room_, low]; omega
theorem range_low (ds : List Int32) : low ds = (List.range ds.length).map fun i => (low ds).getD (0 + i) (.int 0) := by
  refine List.ext_getElem (by simp [low]) fun i h1 h2 => ?_
  simp [low] at h1 ⊢
  simp [List.getD, h1]
theorem range_take {vs : List Value} {n : Nat} {d : Value} (h : n ≤ vs.length) : vs.take n = (List.range n).map fun i => vs.getD (0 + i) d := by
  refine List.ext_getElem (by simp; omega) fun i h1 h2 => ?_
  have hi : i < n := by simpa using h2
  simp [List.getD, show i < vs.length by omega]
theorem room_put {cs ds : List Int32} {cap : Nat} (h : cs.length + ds.length ≤ cap) : (room_ cs cap).take cs.length ++ low ds ++ (room_ cs cap).drop (cs.length + ds.length) = room_ (cs ++ ds) cap := by
  have e1 : (room_ cs cap).take cs.length = low cs := by rw [room_, ← low_len cs, List.take_left']; rfl
  have e2 : (room_ cs cap).drop (cs.length + ds.length) = List.replicate (cap - (cs ++ ds).length) (.int 0) := by
    rw [room_, List.drop_append, low_len, List.drop_replicate]
    have : (low cs).drop (cs.length + ds.length) = [] := List.drop_eq_nil_of_le (by rw [low_len]; omega)
    rw [this, List.nil_append, List.length_append]
    congr 1; omega
  rw [e1, e2, room_]; simp [low]
theorem room_take {cs : List Int32} {cap : Nat} : (room_ cs cap).take cs.length = low cs := by rw [room_, ← low_len cs, List.take_left']; rfl
theorem room_nil (cap : Nat) : room_ [] cap = List.replicate cap (.int 0) := by simp [room_, low]
theorem shl0 (x : Int32) : x <<< ((0 : Int32) &&& 31) = x := by
  rw [show ((0 : Int32) &&& 31) = 0 from by decide]
  simp
theorem shr0' (x : Int32) : x >>> ((0 : Int32) &&& 31) = x := by
  rw [show ((0 : Int32) &&& 31) = 0 from by decide]
  simp
theorem sub_le {n m : Nat} (h : n ≤ m) (h' : m ≤ 4000) : ¬ (0 : Int32) < Int32.ofNat n - Int32.ofNat m := by
  rw [Int32.lt_iff_toInt_lt, i32_0]
  have q := c_isub (Int32.ofNat n) (Int32.ofNat m)
  have r := rng32 (Int32.ofNat n - Int32.ofNat m)
  rw [Int32.toInt_ofNat_of_lt (by omega), Int32.toInt_ofNat_of_lt (by omega)] at q
  omega
theorem ofN_inj' {n k : Nat} (h : n ≤ 4000) (h' : k ≤ 4000) (q : Int32.ofNat n = Int32.ofNat k) : n = k := by
  have e := congrArg Int32.toNatClampNeg q
  rwa [ofNat_nat h, ofNat_nat h'] at e
theorem keepNe {h h' : Heap} {x b t : Addr} (n1 : x ≠ b) (n2 : x ≠ t) : x ∉ [b, t] := ninS n1 (ninS n2 nin0)
/-- a StringBuilder that holds the signs cs in an array t of cap bytes -/
def Sb (Z : State) (h : Heap) (b t : Addr) (kt : ClassId) (cap : Nat) (cs : List Int32) : Prop := Exa Z h b SBC ∧ Fld Z h b ASB "value" "[B" (.ref t) ∧ Fld Z h b ASB "coder" "B" (.int 0) ∧ Fld Z h b ASB "count" "I" (.int (Int32.ofNat cs.length)) ∧ Arv Z h t kt .byte (Int32.ofNat cap) (room_ cs cap) (.int 0) ∧ cs.length ≤ cap ∧ cap ≤ 2000
theorem Sb.ext {Z : State} {h h' : Heap} {b t : Addr} {kt : ClassId} {cap : Nat} {cs : List Int32} (F : Sb Z h b t kt cap cs) (E : Ext h h') : Sb Z h' b t kt cap cs := by
  obtain ⟨a1, a2, a3, a4, a5, a6⟩ := F
  exact ⟨a1.ext E, a2.ext E, a3.ext E, a4.ext E, a5.ext E, a6⟩
/-- a String of Latin-1 signs ds in the array t -/
def SL (Z : State) (h : Heap) (x t : Addr) (kt : ClassId) (ds : List Int32) : Prop := Exa Z h x ST ∧ Fld Z h x ST "value" "[B" (.ref t) ∧ Fld Z h x ST "coder" "B" (.int 0) ∧ Arv Z h t kt .byte (Int32.ofNat ds.length) (low ds) (.int 0) ∧ (∀ c ∈ ds, Lat c) ∧ ds.length ≤ 2000
theorem SL.ext {Z : State} {h h' : Heap} {x t : Addr} {kt : ClassId} {cs : List Int32} (F : SL Z h x t kt cs) (E : Ext h h') : SL Z h' x t kt cs := by
  obtain ⟨a1, a2, a3, a5, a6⟩ := F
  exact ⟨a1.ext E, a2.ext E, a3.ext E, a5.ext E, a6⟩
theorem lat_chr {c : Int32} (h : Lat c) : ¬ c < 0 ∧ ¬ (65535 : Int32) < c := ⟨h.1, fun z => h.2 (by
  rw [Int32.lt_iff_toInt_lt] at z ⊢
  have e1 : (65535 : Int32).toInt = 65535 := by decide
  rw [i32_255]; omega)⟩
theorem SL.str {Z : State} {h : Heap} {x t : Addr} {kt : ClassId} {cs : List Int32} (F : SL Z h x t kt cs) : Str Z h x cs := by
  obtain ⟨a1, a2, a3, a4, a5, a6⟩ := F
  exact ⟨a1, t, kt, 0, _, _, a2, a3, a4, Or.inl ⟨rfl, rfl, rfl, fun c q => (a5 c q).2⟩, fun c q => lat_chr (a5 c q), by omega⟩
theorem Str.sl {Z : State} {h : Heap} {x : Addr} {cs : List Int32} (F : Str Z h x cs) (hc : ∀ c ∈ cs, Lat c) (hl : cs.length ≤ 2000) : ∃ t kt, SL Z h x t kt cs := by
  obtain ⟨t, kb, q1, q2, q3, q4⟩ := F.lat hc
  exact ⟨t, kb, F.1, q1, q2, q3, hc, hl⟩
theorem neExa {Z : State} {h : Heap} {a b : Addr} {C D : String} (E : Exa Z h a C) (F : Exa Z h b D) (hn : C ≠ D) : a ≠ b := ne_exa E F hn
theorem notMem2 {x a b : Addr} (h1 : x ≠ a) (h2 : x ≠ b) : x ∉ [a, b] := ninS h1 (ninS h2 nin0)

theorem dcdr_0 : decode jdk_42_method_152_code 0 = .ok (.getstatic 38, 3) := by decide +kernel
theorem dcdr_3 : decode jdk_42_method_152_code 3 = .ok (.ifCond .eq 10, 3) := by decide +kernel
theorem dcdr_6 : decode jdk_42_method_152_code 6 = .ok (.aload_n 0, 1) := by decide +kernel
theorem dcdr_7 : decode jdk_42_method_152_code 7 = .ok (.getfield 15, 3) := by decide +kernel
theorem dcdr_10 : decode jdk_42_method_152_code 10 = .ok (.goto 4, 3) := by decide +kernel
theorem dcdr_13 : decode jdk_42_method_152_code 13 = .ok (.iconst 1, 1) := by decide +kernel
theorem dcdr_14 : decode jdk_42_method_152_code 14 = .ok (.ireturn, 1) := by decide +kernel
theorem pn_0 : plainName "java/lang/String" = true := by first | (simp [plainName, overriddenIn]; done) | decide +kernel
theorem ef_cdr (m : MethodId) (x : Addr) : entryFrame m #[.ref x] 1 = mkF m 0 #[.val (.ref x)] [] := by first | (simp [entryFrame, mkF, argsToLocals, Value.category]; done) | rfl
set_option maxRecDepth 65536 in
set_option maxHeartbeats 40000000 in
theorem rm_cdr {l : Launch} {Z : State} {a0 : Array Value} {zc : Int32} {fm : Value} (G : Gl Z a0 zc fm) (h : Heap) (x : Addr) (C : Fld Z h x ST "coder" "B" (.int 0)) :
    Met l Z consts_1 (⟨"java/lang/String", "coder", "()B"⟩ : MethodName) jdk_42_method_152_code 1 (some .byte) ({ frames := 0, cells := 0, slots := 0, locals := 0 } : Room) #[.ref x] h [] [] (fun v h' => v = some (.int 0) ∧ h = h') := by
  have G0 := G
  obtain ⟨hw, hEL, SC, hz, SF, hfm⟩ := G
  have hw1 : ∀ d ∈ StrChars.Road.words, d.before a0 Z = true := fun d q => hw d (sub1 d q)
  have hwA : ∀ d ∈ Bundle.stringAtoms, d.before a0 Z = true := fun d q => hw d (subA d q)
  have hw2 : ∀ d ∈ wordsS, d.before a0 Z = true := fun d q => hw d (sub2 d q)
  refine Met.of (plainFor_of_name pn_0) ?_
  intro p e s m below meth c T hnm hret hlk hby hml hs w
  have hZ0 := w.old
  refine Run.cast (ef_cdr m x) ?_
  refine w_getS w (hw _ (List.mem_of_getElem? (i := 67) rfl)) Via.refl (SC.ext w.old) (hb hby dcdr_0) (pc' := 3) rfl fun T w => ?_
  refine s_if_eq w (hb hby dcdr_3) (by decide) (pc1 := 6) rfl (pc2 := 13) rfl (fun ct1 => ?_) (fun ct1 => ?_)
  · -- ¬ (zc = 0)
    refine s_aload_n w (hb hby dcdr_6) rfl rfl (pc' := 7) rfl ?_
    refine w_getF w (hw _ (List.mem_of_getElem? (i := 21) rfl)) Via.refl C (hb hby dcdr_7) (pc' := 10) rfl fun T w => ?_
    refine s_goto w (hb hby dcdr_10) (by decide) (pc' := 14) rfl ?_
    exact w_ireturn w hEL hs hlk hret rfl (Or.inr (Or.inr (Or.inl rfl))) (hb hby dcdr_14) (by decide) (by decide) ⟨rfl, rfl⟩
  · -- zc = 0
    refine s_iconst w (hb hby dcdr_13) (v := 1) rfl (pc' := 14) rfl ?_
    exact absurd ct1 hz
theorem dgby_0 : decode jdk_42_method_147_code 0 = .ok (.aload_n 0, 1) := by decide +kernel
theorem dgby_1 : decode jdk_42_method_147_code 1 = .ok (.invokevirtual 335, 3) := by decide +kernel
theorem dgby_4 : decode jdk_42_method_147_code 4 = .ok (.iload_n 3, 1) := by decide +kernel
theorem dgby_5 : decode jdk_42_method_147_code 5 = .ok (.if_icmp .ne 23, 3) := by decide +kernel
theorem dgby_8 : decode jdk_42_method_147_code 8 = .ok (.aload_n 0, 1) := by decide +kernel
theorem dgby_9 : decode jdk_42_method_147_code 9 = .ok (.getfield 9, 3) := by decide +kernel
theorem dgby_12 : decode jdk_42_method_147_code 12 = .ok (.iconst 0, 1) := by decide +kernel
theorem dgby_13 : decode jdk_42_method_147_code 13 = .ok (.aload_n 1, 1) := by decide +kernel
theorem dgby_14 : decode jdk_42_method_147_code 14 = .ok (.iload_n 2, 1) := by decide +kernel
theorem dgby_15 : decode jdk_42_method_147_code 15 = .ok (.iload_n 3, 1) := by decide +kernel
theorem dgby_16 : decode jdk_42_method_147_code 16 = .ok (.ishl, 1) := by decide +kernel
theorem dgby_17 : decode jdk_42_method_147_code 17 = .ok (.aload_n 0, 1) := by decide +kernel
theorem dgby_18 : decode jdk_42_method_147_code 18 = .ok (.getfield 9, 3) := by decide +kernel
theorem dgby_21 : decode jdk_42_method_147_code 21 = .ok (.arraylength, 1) := by decide +kernel
theorem dgby_22 : decode jdk_42_method_147_code 22 = .ok (.invokestatic 212, 3) := by decide +kernel
theorem dgby_25 : decode jdk_42_method_147_code 25 = .ok (.goto 18, 3) := by decide +kernel
theorem dgby_28 : decode jdk_42_method_147_code 28 = .ok (.aload_n 0, 1) := by decide +kernel
theorem dgby_29 : decode jdk_42_method_147_code 29 = .ok (.getfield 9, 3) := by decide +kernel
theorem dgby_32 : decode jdk_42_method_147_code 32 = .ok (.iconst 0, 1) := by decide +kernel
theorem dgby_33 : decode jdk_42_method_147_code 33 = .ok (.aload_n 1, 1) := by decide +kernel
theorem dgby_34 : decode jdk_42_method_147_code 34 = .ok (.iload_n 2, 1) := by decide +kernel
theorem dgby_35 : decode jdk_42_method_147_code 35 = .ok (.aload_n 0, 1) := by decide +kernel
theorem dgby_36 : decode jdk_42_method_147_code 36 = .ok (.getfield 9, 3) := by decide +kernel
theorem dgby_39 : decode jdk_42_method_147_code 39 = .ok (.arraylength, 1) := by decide +kernel
theorem dgby_40 : decode jdk_42_method_147_code 40 = .ok (.invokestatic 106, 3) := by decide +kernel
theorem dgby_43 : decode jdk_42_method_147_code 43 = .ok (.return_, 1) := by decide +kernel
theorem ef_gby (m : MethodId) (x : Addr) (t : Addr) (I0 : Int32) : entryFrame m #[.ref x, .ref t, .int I0, .int 0] 4 = mkF m 0 #[.val (.ref x), .val (.ref t), .val (.int I0), .val (.int 0)] [] := by first | (simp [entryFrame, mkF, argsToLocals, Value.category]; done) | rfl
set_option maxRecDepth 65536 in
set_option maxHeartbeats 40000000 in
theorem rm_gby {l : Launch} {Z : State} {a0 : Array Value} {zc : Int32} {fm : Value} (G : Gl Z a0 zc fm) (h : Heap) (x : Addr) (t : Addr) (I0 : Int32) (tx : Addr) (kt kx : ClassId) (cap i : Nat) (ds : List Int32) (vd : List Value) (hI : I0 = Int32.ofNat i) (X0 : SL Z h x tx kx ds) (At : Arv Z h t kt .byte (Int32.ofNat cap) vd (.int 0)) (hvl : vd.length = cap) (hic : i + ds.length ≤ cap) (hc2 : cap ≤ 2000) :
    Met l Z consts_1 (⟨"java/lang/String", "getBytes", "([BIB)V"⟩ : MethodName) jdk_42_method_147_code 4 none ({ frames := 1, cells := 0, slots := 0, locals := 40 } : Room) #[.ref x, .ref t, .int I0, .int 0] h [t] [t] (fun v h' => v = none ∧ Arv Z h' t kt .byte (Int32.ofNat cap) (vd.take i ++ low ds ++ vd.drop (i + ds.length)) (.int 0)) := by
  have G0 := G
  obtain ⟨hw, hEL, SC, hz, SF, hfm⟩ := G
  have hw1 : ∀ d ∈ StrChars.Road.words, d.before a0 Z = true := fun d q => hw d (sub1 d q)
  have hwA : ∀ d ∈ Bundle.stringAtoms, d.before a0 Z = true := fun d q => hw d (subA d q)
  have hw2 : ∀ d ∈ wordsS, d.before a0 Z = true := fun d q => hw d (sub2 d q)
  refine Met.of (plainFor_of_name pn_0) ?_
  intro p e s m below meth c T hnm hret hlk hby hml hs w
  have hZ0 := w.old
  refine Run.cast (ef_gby m x t I0) ?_
  have Sx := X0.str
  obtain ⟨Ex, Vx, Cx, Ax, hlat, hdl⟩ := X0
  refine s_aload_n w (hb hby dgby_0) rfl rfl (pc' := 1) rfl ?_
  refine w_virtualN w hEL (y := (⟨"java/lang/String", "coder", "()B"⟩ : MethodName)) (y' := (⟨"java/lang/String", "coder", "()B"⟩ : MethodName)) (C := "java/lang/String") (a := x) (hw _ (List.mem_of_getElem? (i := 62) rfl)) (hw _ (List.mem_of_getElem? (i := 63) rfl)) (hw _ (List.mem_of_getElem? (i := 65) rfl)) (hw _ (List.mem_of_getElem? (i := 65) rfl)) (hw _ (List.mem_of_getElem? (i := 64) rfl)) (hw _ (List.mem_of_getElem? (i := 3) rfl)) (hw _ (List.mem_of_getElem? (i := 66) rfl)) (by decide) Ex (rm_cdr G0 h x Cx) all0 all0 (argsL := []) (rest := []) (lenOf (by decide +kernel : parseMethodDescriptor "()B" = some ⟨[], (some .byte)⟩) rfl) rfl rfl (hb hby dgby_1) (by rw [hml]; rfl) (W := 0) (Nat.le_of_eq rfl) (by decide) (by decide) (by decide) (by decide) (pc' := 4) rfl fun u1 N2 T h3 w K4 P5 => ?_
  obtain ⟨rfl, P6⟩ := P5
  obtain ⟨rfl, rfl⟩ := P6
  show Run p e below _ T (mkF m 4 #[.val (.ref x), .val (.ref t), .val (.int I0), .val (.int 0)] [.int 0])
  refine s_iload_n w (hb hby dgby_4) rfl (pc' := 5) rfl ?_
  refine s_icmp_ne w (hb hby dgby_5) (by decide) (pc1 := 8) rfl (pc2 := 28) rfl (fun _ => ?_) (fun q => absurd q (by decide))
  refine s_aload_n w (hb hby dgby_8) rfl rfl (pc' := 9) rfl ?_
  refine w_getF w (hw _ (List.mem_of_getElem? (i := 20) rfl)) Via.refl Vx (hb hby dgby_9) (pc' := 12) rfl fun T w => ?_
  refine s_iconst w (hb hby dgby_12) (v := 0) rfl (pc' := 13) rfl ?_
  refine s_aload_n w (hb hby dgby_13) rfl rfl (pc' := 14) rfl ?_
  refine s_iload_n w (hb hby dgby_14) rfl (pc' := 15) rfl ?_
  refine s_iload_n w (hb hby dgby_15) rfl (pc' := 16) rfl ?_
  refine s_ishl w (hb hby dgby_16) (pc' := 17) rfl ?_
  refine s_aload_n w (hb hby dgby_17) rfl rfl (pc' := 18) rfl ?_
  refine w_getF w (hw _ (List.mem_of_getElem? (i := 20) rfl)) Via.refl Vx (hb hby dgby_18) (pc' := 21) rfl fun T w => ?_
  refine w_len w Ax (hb hby dgby_21) (pc' := 22) rfl ?_
  rw [shl0]
  refine w_copyB w (hw _ (List.mem_of_getElem? (i := 91) rfl)) (hw _ (List.mem_of_getElem? (i := 94) rfl)) (hw _ (List.mem_of_getElem? (i := 92) rfl)) (hw _ (List.mem_of_getElem? (i := 93) rfl)) (is := 0) (id := i) (n := ds.length) (us := low ds) Ax At rfl hI rfl (by omega) (by omega) (by omega) (by rw [ofNat_nat (by omega)]; omega) (by rw [ofNat_nat (by omega)]; omega) (range_low ds) (by omega) (List.mem_of_getElem? (i := 0) rfl) (Or.inl (List.mem_of_getElem? (i := 0) rfl)) rfl (hb hby dgby_22) (by rw [hml]; rfl) (by decide) (W := 0) (Nat.le_of_eq rfl) (by decide) (pc' := 25) rfl fun T h8 w K9 F10 => ?_
  refine s_goto w (hb hby dgby_25) (by decide) (pc' := 43) rfl ?_
  exact w_return w hEL hs hlk hret (hb hby dgby_43) (by decide) (by decide) ⟨rfl, F10⟩
theorem dinf_0 : decode jdk_68_method_71_code 0 = .ok (.getstatic 18, 3) := by decide +kernel
theorem dinf_3 : decode jdk_68_method_71_code 3 = .ok (.ifCond .eq 18, 3) := by decide +kernel
theorem dinf_6 : decode jdk_68_method_71_code 6 = .ok (.aload_n 0, 1) := by decide +kernel
theorem dinf_7 : decode jdk_68_method_71_code 7 = .ok (.getfield 22, 3) := by decide +kernel
theorem dinf_10 : decode jdk_68_method_71_code 10 = .ok (.aload_n 1, 1) := by decide +kernel
theorem dinf_11 : decode jdk_68_method_71_code 11 = .ok (.invokevirtual 40, 3) := by decide +kernel
theorem dinf_14 : decode jdk_68_method_71_code 14 = .ok (.if_icmp .eq 7, 3) := by decide +kernel
theorem dinf_17 : decode jdk_68_method_71_code 17 = .ok (.aload_n 0, 1) := by decide +kernel
theorem dinf_18 : decode jdk_68_method_71_code 18 = .ok (.invokevirtual 195, 3) := by decide +kernel
theorem dinf_21 : decode jdk_68_method_71_code 21 = .ok (.return_, 1) := by decide +kernel
theorem pn_1 : plainName "java/lang/AbstractStringBuilder" = true := by first | (simp [plainName, overriddenIn]; done) | decide +kernel
theorem ef_inf (m : MethodId) (b : Addr) (x : Addr) : entryFrame m #[.ref b, .ref x] 2 = mkF m 0 #[.val (.ref b), .val (.ref x)] [] := by first | (simp [entryFrame, mkF, argsToLocals, Value.category]; done) | rfl
set_option maxRecDepth 65536 in
set_option maxHeartbeats 40000000 in
theorem rm_inf {l : Launch} {Z : State} {a0 : Array Value} {zc : Int32} {fm : Value} (G : Gl Z a0 zc fm) (h : Heap) (b : Addr) (x : Addr) (t tx : Addr) (kt kx : ClassId) (cap : Nat) (cs ds : List Int32) (B0 : Sb Z h b t kt cap cs) (X0 : SL Z h x tx kx ds) :
    Met l Z consts_1 (⟨"java/lang/AbstractStringBuilder", "inflateIfNeededFor", "(Ljava/lang/String;)V"⟩ : MethodName) jdk_68_method_71_code 2 none ({ frames := 1, cells := 0, slots := 0, locals := 13 } : Room) #[.ref b, .ref x] h [] [] (fun v h' => v = none ∧ h = h') := by
  have G0 := G
  obtain ⟨hw, hEL, SC, hz, SF, hfm⟩ := G
  have hw1 : ∀ d ∈ StrChars.Road.words, d.before a0 Z = true := fun d q => hw d (sub1 d q)
  have hwA : ∀ d ∈ Bundle.stringAtoms, d.before a0 Z = true := fun d q => hw d (subA d q)
  have hw2 : ∀ d ∈ wordsS, d.before a0 Z = true := fun d q => hw d (sub2 d q)
  refine Met.of (plainFor_of_name pn_1) ?_
  intro p e s m below meth c T hnm hret hlk hby hml hs w
  have hZ0 := w.old
  refine Run.cast (ef_inf m b x) ?_
  obtain ⟨Eb, Vb, Cb, Nb, At, hcap, hcap2⟩ := B0
  have Sx := X0.str
  obtain ⟨Ex, Vx, Cx, Ax, hlat, hdl⟩ := X0
  refine w_getS w (hw _ (List.mem_of_getElem? (i := 41) rfl)) Via.refl (SC.ext w.old) (hb hby dinf_0) (pc' := 3) rfl fun T w => ?_
  refine s_if_eq w (hb hby dinf_3) (by decide) (pc1 := 6) rfl (pc2 := 21) rfl (fun ct1 => ?_) (fun ct1 => ?_)
  · skip
    refine s_aload_n w (hb hby dinf_6) rfl rfl (pc' := 7) rfl ?_
    refine w_getF w (hw _ (List.mem_of_getElem? (i := 44) rfl)) Via.refl Cb (hb hby dinf_7) (pc' := 10) rfl fun T w => ?_
    refine s_aload_n w (hb hby dinf_10) rfl rfl (pc' := 11) rfl ?_
    refine w_virtualN w hEL (y := (⟨"java/lang/String", "coder", "()B"⟩ : MethodName)) (y' := (⟨"java/lang/String", "coder", "()B"⟩ : MethodName)) (C := "java/lang/String") (a := x) (hw _ (List.mem_of_getElem? (i := 85) rfl)) (hw _ (List.mem_of_getElem? (i := 63) rfl)) (hw _ (List.mem_of_getElem? (i := 65) rfl)) (hw _ (List.mem_of_getElem? (i := 65) rfl)) (hw _ (List.mem_of_getElem? (i := 64) rfl)) (hw _ (List.mem_of_getElem? (i := 3) rfl)) (hw _ (List.mem_of_getElem? (i := 66) rfl)) (by decide) Ex (rm_cdr G0 h x Cx) all0 all0 (argsL := []) (rest := [.int 0]) (lenOf (by decide +kernel : parseMethodDescriptor "()B" = some ⟨[], (some .byte)⟩) rfl) rfl rfl (hb hby dinf_11) (by rw [hml]; rfl) (W := 1) (Nat.le_of_eq rfl) (by decide) (by decide) (by decide) (by decide) (pc' := 14) rfl fun u2 N3 T h4 w K5 P6 => ?_
    obtain ⟨rfl, P7⟩ := P6
    obtain ⟨rfl, rfl⟩ := P7
    show Run p e below _ T (mkF m 14 #[.val (.ref b), .val (.ref x)] [.int 0, .int 0])
    refine s_icmp_eq w (hb hby dinf_14) (by decide) (pc1 := 17) rfl (pc2 := 21) rfl (fun q => absurd q (by decide)) (fun _ => ?_)
    exact w_return w hEL hs hlk hret (hb hby dinf_21) (by decide) (by decide) ⟨rfl, rfl⟩
  · exact absurd ct1 hz
theorem dpsa_0 : decode jdk_68_method_73_code 0 = .ok (.aload_n 0, 1) := by decide +kernel
theorem dpsa_1 : decode jdk_68_method_73_code 1 = .ok (.aload_n 2, 1) := by decide +kernel
theorem dpsa_2 : decode jdk_68_method_73_code 2 = .ok (.invokevirtual 397, 3) := by decide +kernel
theorem dpsa_5 : decode jdk_68_method_73_code 5 = .ok (.aload_n 2, 1) := by decide +kernel
theorem dpsa_6 : decode jdk_68_method_73_code 6 = .ok (.aload_n 0, 1) := by decide +kernel
theorem dpsa_7 : decode jdk_68_method_73_code 7 = .ok (.getfield 15, 3) := by decide +kernel
theorem dpsa_10 : decode jdk_68_method_73_code 10 = .ok (.iload_n 1, 1) := by decide +kernel
theorem dpsa_11 : decode jdk_68_method_73_code 11 = .ok (.aload_n 0, 1) := by decide +kernel
theorem dpsa_12 : decode jdk_68_method_73_code 12 = .ok (.getfield 22, 3) := by decide +kernel
theorem dpsa_15 : decode jdk_68_method_73_code 15 = .ok (.invokevirtual 399, 3) := by decide +kernel
theorem dpsa_18 : decode jdk_68_method_73_code 18 = .ok (.return_, 1) := by decide +kernel
theorem ef_psa (m : MethodId) (b : Addr) (I0 : Int32) (x : Addr) : entryFrame m #[.ref b, .int I0, .ref x] 3 = mkF m 0 #[.val (.ref b), .val (.int I0), .val (.ref x)] [] := by first | (simp [entryFrame, mkF, argsToLocals, Value.category]; done) | rfl
set_option maxRecDepth 65536 in
set_option maxHeartbeats 40000000 in
theorem rm_psa {l : Launch} {Z : State} {a0 : Array Value} {zc : Int32} {fm : Value} (G : Gl Z a0 zc fm) (h : Heap) (b : Addr) (I0 : Int32) (x : Addr) (t tx : Addr) (kt kx : ClassId) (cap : Nat) (cs ds : List Int32) (hI : I0 = Int32.ofNat cs.length) (B0 : Sb Z h b t kt cap cs) (X0 : SL Z h x tx kx ds) (hfit : cs.length + ds.length ≤ cap) :
    Met l Z consts_1 (⟨"java/lang/AbstractStringBuilder", "putStringAt", "(ILjava/lang/String;)V"⟩ : MethodName) jdk_68_method_73_code 3 none ({ frames := 2, cells := 0, slots := 0, locals := 55 } : Room) #[.ref b, .int I0, .ref x] h [t] [t] (fun v h' => v = none ∧ Arv Z h' t kt .byte (Int32.ofNat cap) (room_ (cs ++ ds) cap) (.int 0)) := by
  have G0 := G
  obtain ⟨hw, hEL, SC, hz, SF, hfm⟩ := G
  have hw1 : ∀ d ∈ StrChars.Road.words, d.before a0 Z = true := fun d q => hw d (sub1 d q)
  have hwA : ∀ d ∈ Bundle.stringAtoms, d.before a0 Z = true := fun d q => hw d (subA d q)
  have hw2 : ∀ d ∈ wordsS, d.before a0 Z = true := fun d q => hw d (sub2 d q)
  refine Met.of (plainFor_of_name pn_1) ?_
  intro p e s m below meth c T hnm hret hlk hby hml hs w
  have hZ0 := w.old
  refine Run.cast (ef_psa m b I0 x) ?_
  have B1 := B0
  have X1 := X0
  obtain ⟨Eb, Vb, Cb, Nb, At, hcap, hcap2⟩ := B0
  have Sx := X0.str
  obtain ⟨Ex, Vx, Cx, Ax, hlat, hdl⟩ := X0
  refine s_aload_n w (hb hby dpsa_0) rfl rfl (pc' := 1) rfl ?_
  refine s_aload_n w (hb hby dpsa_1) rfl rfl (pc' := 2) rfl ?_
  refine w_privateN w hEL (y := (⟨"java/lang/AbstractStringBuilder", "inflateIfNeededFor", "(Ljava/lang/String;)V"⟩ : MethodName)) (C := "java/lang/StringBuilder") (a := b) (hw _ (List.mem_of_getElem? (i := 80) rfl)) (hw _ (List.mem_of_getElem? (i := 110) rfl)) rfl (hw _ (List.mem_of_getElem? (i := 82) rfl)) (hw _ (List.mem_of_getElem? (i := 81) rfl)) (hw _ (List.mem_of_getElem? (i := 38) rfl)) (hw _ (List.mem_of_getElem? (i := 84) rfl)) (by decide) Eb (rm_inf G0 h b x t tx kt kx cap cs ds B1 X1) all0 all0 (argsL := [.ref x]) (rest := []) (lenOf (by decide +kernel : parseMethodDescriptor "(Ljava/lang/String;)V" = some ⟨[(.object "java/lang/String")], none⟩) rfl) rfl rfl (hb hby dpsa_2) (by rw [hml]; rfl) (W := 0) (Nat.le_of_eq rfl) (by decide) (by decide) (by decide) (by decide) (pc' := 5) rfl fun u1 N2 T h3 w K4 P5 => ?_
  obtain ⟨rfl, P6⟩ := P5
  obtain ⟨rfl, rfl⟩ := P6
  show Run p e below _ T (mkF m 5 #[.val (.ref b), .val (.int I0), .val (.ref x)] [])
  refine s_aload_n w (hb hby dpsa_5) rfl rfl (pc' := 6) rfl ?_
  refine s_aload_n w (hb hby dpsa_6) rfl rfl (pc' := 7) rfl ?_
  refine w_getF w (hw _ (List.mem_of_getElem? (i := 42) rfl)) Via.refl Vb (hb hby dpsa_7) (pc' := 10) rfl fun T w => ?_
  refine s_iload_n w (hb hby dpsa_10) rfl (pc' := 11) rfl ?_
  refine s_aload_n w (hb hby dpsa_11) rfl rfl (pc' := 12) rfl ?_
  refine w_getF w (hw _ (List.mem_of_getElem? (i := 44) rfl)) Via.refl Cb (hb hby dpsa_12) (pc' := 15) rfl fun T w => ?_
  refine w_virtualN w hEL (y := (⟨"java/lang/String", "getBytes", "([BIB)V"⟩ : MethodName)) (y' := (⟨"java/lang/String", "getBytes", "([BIB)V"⟩ : MethodName)) (C := "java/lang/String") (a := x) (hw _ (List.mem_of_getElem? (i := 86) rfl)) (hw _ (List.mem_of_getElem? (i := 87) rfl)) (hw _ (List.mem_of_getElem? (i := 89) rfl)) (hw _ (List.mem_of_getElem? (i := 89) rfl)) (hw _ (List.mem_of_getElem? (i := 88) rfl)) (hw _ (List.mem_of_getElem? (i := 3) rfl)) (hw _ (List.mem_of_getElem? (i := 90) rfl)) (by decide) Ex (rm_gby G0 h x t I0 tx kt kx cap cs.length ds _ hI X1 At (room_len hcap) hfit (by omega)) (allS (List.mem_of_getElem? (i := 0) rfl) all0) (allS (Or.inl (List.mem_of_getElem? (i := 0) rfl)) all0) (argsL := [.ref t, .int I0, .int 0]) (rest := []) (lenOf (by decide +kernel : parseMethodDescriptor "([BIB)V" = some ⟨[(.array .byte), .int, .byte], none⟩) rfl) rfl rfl (hb hby dpsa_15) (by rw [hml]; rfl) (W := 0) (Nat.le_of_eq rfl) (by decide) (by decide) (by decide) (by decide) (pc' := 18) rfl fun u7 N8 T h9 w K10 P11 => ?_
  obtain ⟨rfl, P12⟩ := P11
  obtain ⟨rfl, P9⟩ := P12
  rw [room_put hfit] at P9
  show Run p e below _ T (mkF m 18 #[.val (.ref b), .val (.int I0), .val (.ref x)] [])
  exact w_return w hEL hs hlk hret (hb hby dpsa_18) (by decide) (by decide) ⟨rfl, P9⟩
theorem deci_0 : decode jdk_68_method_9_code 0 = .ok (.aload_n 0, 1) := by decide +kernel
theorem deci_1 : decode jdk_68_method_9_code 1 = .ok (.getfield 15, 3) := by decide +kernel
theorem deci_4 : decode jdk_68_method_9_code 4 = .ok (.arraylength, 1) := by decide +kernel
theorem deci_5 : decode jdk_68_method_9_code 5 = .ok (.aload_n 0, 1) := by decide +kernel
theorem deci_6 : decode jdk_68_method_9_code 6 = .ok (.getfield 22, 3) := by decide +kernel
theorem deci_9 : decode jdk_68_method_9_code 9 = .ok (.ishr, 1) := by decide +kernel
theorem deci_10 : decode jdk_68_method_9_code 10 = .ok (.istore_n 2, 1) := by decide +kernel
theorem deci_11 : decode jdk_68_method_9_code 11 = .ok (.iload_n 1, 1) := by decide +kernel
theorem deci_12 : decode jdk_68_method_9_code 12 = .ok (.iload_n 2, 1) := by decide +kernel
theorem deci_13 : decode jdk_68_method_9_code 13 = .ok (.isub, 1) := by decide +kernel
theorem deci_14 : decode jdk_68_method_9_code 14 = .ok (.ifCond .le 24, 3) := by decide +kernel
theorem deci_17 : decode jdk_68_method_9_code 17 = .ok (.aload_n 0, 1) := by decide +kernel
theorem deci_18 : decode jdk_68_method_9_code 18 = .ok (.aload_n 0, 1) := by decide +kernel
theorem deci_19 : decode jdk_68_method_9_code 19 = .ok (.getfield 15, 3) := by decide +kernel
theorem deci_22 : decode jdk_68_method_9_code 22 = .ok (.aload_n 0, 1) := by decide +kernel
theorem deci_23 : decode jdk_68_method_9_code 23 = .ok (.iload_n 1, 1) := by decide +kernel
theorem deci_24 : decode jdk_68_method_9_code 24 = .ok (.invokevirtual 104, 3) := by decide +kernel
theorem deci_27 : decode jdk_68_method_9_code 27 = .ok (.aload_n 0, 1) := by decide +kernel
theorem deci_28 : decode jdk_68_method_9_code 28 = .ok (.getfield 22, 3) := by decide +kernel
theorem deci_31 : decode jdk_68_method_9_code 31 = .ok (.ishl, 1) := by decide +kernel
theorem deci_32 : decode jdk_68_method_9_code 32 = .ok (.invokestatic 108, 3) := by decide +kernel
theorem deci_35 : decode jdk_68_method_9_code 35 = .ok (.putfield 15, 3) := by decide +kernel
theorem deci_38 : decode jdk_68_method_9_code 38 = .ok (.return_, 1) := by decide +kernel
theorem ef_eci (m : MethodId) (b : Addr) (M : Int32) : entryFrame m #[.ref b, .int M] 3 = mkF m 0 #[.val (.ref b), .val (.int M), .unset] [] := by first | (simp [entryFrame, mkF, argsToLocals, Value.category]; done) | rfl
set_option maxRecDepth 65536 in
set_option maxHeartbeats 40000000 in
theorem rm_eci {l : Launch} {Z : State} {a0 : Array Value} {zc : Int32} {fm : Value} (G : Gl Z a0 zc fm) (h : Heap) (b : Addr) (M : Int32) (t : Addr) (kt : ClassId) (cap m0 : Nat) (cs : List Int32) (hM : M = Int32.ofNat m0) (hm : m0 ≤ cap) (B0 : Sb Z h b t kt cap cs) :
    Met l Z consts_1 (⟨"java/lang/AbstractStringBuilder", "ensureCapacityInternal", "(I)V"⟩ : MethodName) jdk_68_method_9_code 3 none ({ frames := 0, cells := 0, slots := 0, locals := 0 } : Room) #[.ref b, .int M] h [] [] (fun v h' => v = none ∧ h = h') := by
  have G0 := G
  obtain ⟨hw, hEL, SC, hz, SF, hfm⟩ := G
  have hw1 : ∀ d ∈ StrChars.Road.words, d.before a0 Z = true := fun d q => hw d (sub1 d q)
  have hwA : ∀ d ∈ Bundle.stringAtoms, d.before a0 Z = true := fun d q => hw d (subA d q)
  have hw2 : ∀ d ∈ wordsS, d.before a0 Z = true := fun d q => hw d (sub2 d q)
  refine Met.of (plainFor_of_name pn_1) ?_
  intro p e s m below meth c T hnm hret hlk hby hml hs w
  have hZ0 := w.old
  refine Run.cast (ef_eci m b M) ?_
  obtain ⟨Eb, Vb, Cb, Nb, At, hcap, hcap2⟩ := B0
  refine s_aload_n w (hb hby deci_0) rfl rfl (pc' := 1) rfl ?_
  refine w_getF w (hw _ (List.mem_of_getElem? (i := 42) rfl)) Via.refl Vb (hb hby deci_1) (pc' := 4) rfl fun T w => ?_
  refine w_len w At (hb hby deci_4) (pc' := 5) rfl ?_
  refine s_aload_n w (hb hby deci_5) rfl rfl (pc' := 6) rfl ?_
  refine w_getF w (hw _ (List.mem_of_getElem? (i := 44) rfl)) Via.refl Cb (hb hby deci_6) (pc' := 9) rfl fun T w => ?_
  refine s_ishr w (hb hby deci_9) (pc' := 10) rfl ?_
  rw [shr0']
  refine s_istore_n w #[.val (.ref b), .val (.int M), .val (.int (Int32.ofNat cap))] (hb hby deci_10) rfl (pc' := 11) rfl ?_
  refine s_iload_n w (hb hby deci_11) rfl (pc' := 12) rfl ?_
  refine s_iload_n w (hb hby deci_12) rfl (pc' := 13) rfl ?_
  refine s_isub w (hb hby deci_13) (pc' := 14) rfl ?_
  refine s_if_le w (hb hby deci_14) (by decide) (pc1 := 17) rfl (pc2 := 38) rfl (fun ct1 => ?_) (fun ct1 => ?_)
  · exact absurd ct1 (by rw [hM]; exact sub_le hm (by omega))
  · skip
    exact w_return w hEL hs hlk hret (hb hby deci_38) (by decide) (by decide) ⟨rfl, rfl⟩
theorem dasa_0 : decode jdk_68_method_22_code 0 = .ok (.aload_n 1, 1) := by decide +kernel
theorem dasa_1 : decode jdk_68_method_22_code 1 = .ok (.ifnonnull 8, 3) := by decide +kernel
theorem dasa_4 : decode jdk_68_method_22_code 4 = .ok (.aload_n 0, 1) := by decide +kernel
theorem dasa_5 : decode jdk_68_method_22_code 5 = .ok (.invokevirtual 204, 3) := by decide +kernel
theorem dasa_8 : decode jdk_68_method_22_code 8 = .ok (.areturn, 1) := by decide +kernel
theorem dasa_9 : decode jdk_68_method_22_code 9 = .ok (.aload_n 1, 1) := by decide +kernel
theorem dasa_10 : decode jdk_68_method_22_code 10 = .ok (.invokevirtual 32, 3) := by decide +kernel
theorem dasa_13 : decode jdk_68_method_22_code 13 = .ok (.istore_n 2, 1) := by decide +kernel
theorem dasa_14 : decode jdk_68_method_22_code 14 = .ok (.aload_n 0, 1) := by decide +kernel
theorem dasa_15 : decode jdk_68_method_22_code 15 = .ok (.aload_n 0, 1) := by decide +kernel
theorem dasa_16 : decode jdk_68_method_22_code 16 = .ok (.getfield 79, 3) := by decide +kernel
theorem dasa_19 : decode jdk_68_method_22_code 19 = .ok (.iload_n 2, 1) := by decide +kernel
theorem dasa_20 : decode jdk_68_method_22_code 20 = .ok (.iadd, 1) := by decide +kernel
theorem dasa_21 : decode jdk_68_method_22_code 21 = .ok (.invokevirtual 100, 3) := by decide +kernel
theorem dasa_24 : decode jdk_68_method_22_code 24 = .ok (.aload_n 0, 1) := by decide +kernel
theorem dasa_25 : decode jdk_68_method_22_code 25 = .ok (.aload_n 0, 1) := by decide +kernel
theorem dasa_26 : decode jdk_68_method_22_code 26 = .ok (.getfield 79, 3) := by decide +kernel
theorem dasa_29 : decode jdk_68_method_22_code 29 = .ok (.aload_n 1, 1) := by decide +kernel
theorem dasa_30 : decode jdk_68_method_22_code 30 = .ok (.invokevirtual 208, 3) := by decide +kernel
theorem dasa_33 : decode jdk_68_method_22_code 33 = .ok (.aload_n 0, 1) := by decide +kernel
theorem dasa_34 : decode jdk_68_method_22_code 34 = .ok (.dup, 1) := by decide +kernel
theorem dasa_35 : decode jdk_68_method_22_code 35 = .ok (.getfield 79, 3) := by decide +kernel
theorem dasa_38 : decode jdk_68_method_22_code 38 = .ok (.iload_n 2, 1) := by decide +kernel
theorem dasa_39 : decode jdk_68_method_22_code 39 = .ok (.iadd, 1) := by decide +kernel
theorem dasa_40 : decode jdk_68_method_22_code 40 = .ok (.putfield 79, 3) := by decide +kernel
theorem dasa_43 : decode jdk_68_method_22_code 43 = .ok (.aload_n 0, 1) := by decide +kernel
theorem dasa_44 : decode jdk_68_method_22_code 44 = .ok (.areturn, 1) := by decide +kernel
theorem ef_asa (m : MethodId) (b : Addr) (x : Addr) : entryFrame m #[.ref b, .ref x] 3 = mkF m 0 #[.val (.ref b), .val (.ref x), .unset] [] := by first | (simp [entryFrame, mkF, argsToLocals, Value.category]; done) | rfl
set_option maxRecDepth 65536 in
set_option maxHeartbeats 40000000 in
theorem rm_asa {l : Launch} {Z : State} {a0 : Array Value} {zc : Int32} {fm : Value} (G : Gl Z a0 zc fm) (h : Heap) (b : Addr) (x : Addr) (t tx : Addr) (kt kx : ClassId) (cap : Nat) (cs ds : List Int32) (B0 : Sb Z h b t kt cap cs) (X0 : SL Z h x tx kx ds) (hfit : cs.length + ds.length ≤ cap) :
    Met l Z consts_1 (⟨"java/lang/AbstractStringBuilder", "append", "(Ljava/lang/String;)Ljava/lang/AbstractStringBuilder;"⟩ : MethodName) jdk_68_method_22_code 3 (some (.object "java/lang/AbstractStringBuilder")) ({ frames := 3, cells := 0, slots := 0, locals := 69 } : Room) #[.ref b, .ref x] h [t] [b, t] (fun v h' => v = some (.ref b) ∧ Sb Z h' b t kt cap (cs ++ ds)) := by
  have G0 := G
  obtain ⟨hw, hEL, SC, hz, SF, hfm⟩ := G
  have hw1 : ∀ d ∈ StrChars.Road.words, d.before a0 Z = true := fun d q => hw d (sub1 d q)
  have hwA : ∀ d ∈ Bundle.stringAtoms, d.before a0 Z = true := fun d q => hw d (subA d q)
  have hw2 : ∀ d ∈ wordsS, d.before a0 Z = true := fun d q => hw d (sub2 d q)
  refine Met.of (plainFor_of_name pn_1) ?_
  intro p e s m below meth c T hnm hret hlk hby hml hs w
  have hZ0 := w.old
  refine Run.cast (ef_asa m b x) ?_
  have B1 := B0
  have X1 := X0
  obtain ⟨Eb, Vb, Cb, Nb, At, hcap, hcap2⟩ := B0
  have Sx := X0.str
  obtain ⟨Ex, Vx, Cx, Ax, hlat, hdl⟩ := X0
  have hwL : ∀ d ∈ StrChars.Road.wordsLen, d.before a0 Z = true := fun d q => hw d (subL d q)
  have hcx : Int32.ofNat cs.length + Int32.ofNat ds.length = Int32.ofNat (cs.length + ds.length) := (Int32.ofNat_add _ _).symm
  have ntb : b ≠ t := Exa.neArv Eb At (hw _ (List.mem_of_getElem? (i := 29) rfl))
  refine s_aload_n w (hb hby dasa_0) rfl rfl (pc' := 1) rfl ?_
  refine s_ifnonnull_yes w (hb hby dasa_1) (by decide) (pc' := 9) rfl ?_
  refine s_aload_n w (hb hby dasa_9) rfl rfl (pc' := 10) rfl ?_
  obtain ⟨XE, Xt, Xkb, Xcd, XN, Xvs, Xq1, Xq2, Xq3, Xq4, Xq5, Xq6⟩ := Sx
  refine w_virtB w (y := Len.yN) (y' := Len.yN) (C := ST) (hw _ (List.mem_of_getElem? (i := 57) rfl)) (hw _ (List.mem_of_getElem? (i := 58) rfl)) (hw _ (List.mem_of_getElem? (i := 60) rfl)) (hw _ (List.mem_of_getElem? (i := 60) rfl)) (hw _ (List.mem_of_getElem? (i := 59) rfl)) (by decide) XE (Pv := fun v => v = some (.int (Int32.ofNat (ds).length))) (as' := #[.ref x]) (W := 0) (fun vm0 hZ => StrChars.Road.lenW hZ hwL (hw _ (List.mem_of_getElem? (i := 2) rfl)) XE Xq1 Xq2 Xq3 Xq4 Xq5 (SC.ext w.old) hz Xq6 (by decide) (by decide)) (argsL := []) (rest := []) (lenOf (by decide +kernel : parseMethodDescriptor "()I" = some ⟨[], (some .int)⟩) rfl) rfl rfl (hb hby dasa_10) (by rw [hml]; rfl) (Nat.le_of_eq rfl) (by decide) (by decide) (pc' := 13) rfl fun u1 T w P2 => ?_
  obtain rfl := P2
  show Run p e below _ T (mkF m 13 #[.val (.ref b), .val (.ref x), .unset] [.int (Int32.ofNat (ds).length)])
  refine s_istore_n w #[.val (.ref b), .val (.ref x), .val (.int (Int32.ofNat (ds).length))] (hb hby dasa_13) rfl (pc' := 14) rfl ?_
  refine s_aload_n w (hb hby dasa_14) rfl rfl (pc' := 15) rfl ?_
  refine s_aload_n w (hb hby dasa_15) rfl rfl (pc' := 16) rfl ?_
  refine w_getF w (hw _ (List.mem_of_getElem? (i := 68) rfl)) Via.refl Nb (hb hby dasa_16) (pc' := 19) rfl fun T w => ?_
  refine s_iload_n w (hb hby dasa_19) rfl (pc' := 20) rfl ?_
  refine s_iadd w (hb hby dasa_20) (pc' := 21) rfl ?_
  refine w_privateN w hEL (y := (⟨"java/lang/AbstractStringBuilder", "ensureCapacityInternal", "(I)V"⟩ : MethodName)) (C := "java/lang/StringBuilder") (a := b) (hw _ (List.mem_of_getElem? (i := 70) rfl)) (hw _ (List.mem_of_getElem? (i := 110) rfl)) rfl (hw _ (List.mem_of_getElem? (i := 72) rfl)) (hw _ (List.mem_of_getElem? (i := 71) rfl)) (hw _ (List.mem_of_getElem? (i := 38) rfl)) (hw _ (List.mem_of_getElem? (i := 74) rfl)) (by decide) Eb (rm_eci G0 h b _ t kt cap (cs.length + ds.length) cs hcx hfit B1) all0 all0 (argsL := [.int ((Int32.ofNat cs.length) + (Int32.ofNat (ds).length))]) (rest := []) (lenOf (by decide +kernel : parseMethodDescriptor "(I)V" = some ⟨[.int], none⟩) rfl) rfl rfl (hb hby dasa_21) (by rw [hml]; rfl) (W := 0) (Nat.le_of_eq rfl) (by decide) (by decide) (by decide) (by decide) (pc' := 24) rfl fun u3 N4 T h5 w K6 P7 => ?_
  obtain ⟨rfl, P8⟩ := P7
  obtain ⟨rfl, rfl⟩ := P8
  show Run p e below _ T (mkF m 24 #[.val (.ref b), .val (.ref x), .val (.int (Int32.ofNat (ds).length))] [])
  refine s_aload_n w (hb hby dasa_24) rfl rfl (pc' := 25) rfl ?_
  refine s_aload_n w (hb hby dasa_25) rfl rfl (pc' := 26) rfl ?_
  refine w_getF w (hw _ (List.mem_of_getElem? (i := 68) rfl)) Via.refl Nb (hb hby dasa_26) (pc' := 29) rfl fun T w => ?_
  refine s_aload_n w (hb hby dasa_29) rfl rfl (pc' := 30) rfl ?_
  refine w_privateN w hEL (y := (⟨"java/lang/AbstractStringBuilder", "putStringAt", "(ILjava/lang/String;)V"⟩ : MethodName)) (C := "java/lang/StringBuilder") (a := b) (hw _ (List.mem_of_getElem? (i := 75) rfl)) (hw _ (List.mem_of_getElem? (i := 110) rfl)) rfl (hw _ (List.mem_of_getElem? (i := 77) rfl)) (hw _ (List.mem_of_getElem? (i := 76) rfl)) (hw _ (List.mem_of_getElem? (i := 38) rfl)) (hw _ (List.mem_of_getElem? (i := 79) rfl)) (by decide) Eb (rm_psa G0 h b _ x t tx kt kx cap cs ds rfl B1 X1 hfit) (allS (List.mem_of_getElem? (i := 0) rfl) all0) (allS (Or.inl (List.mem_of_getElem? (i := 1) rfl)) all0) (argsL := [.int (Int32.ofNat cs.length), .ref x]) (rest := []) (lenOf (by decide +kernel : parseMethodDescriptor "(ILjava/lang/String;)V" = some ⟨[.int, (.object "java/lang/String")], none⟩) rfl) rfl rfl (hb hby dasa_30) (by rw [hml]; rfl) (W := 0) (Nat.le_of_eq rfl) (by decide) (by decide) (by decide) (by decide) (pc' := 33) rfl fun u9 N10 T h11 w K12 P13 => ?_
  obtain ⟨rfl, P14⟩ := P13
  obtain ⟨rfl, P9⟩ := P14
  have Vb1 := Vb.keep K12 (ninS ntb nin0)
  have Cb1 := Cb.keep K12 (ninS ntb nin0)
  have Nb1 := Nb.keep K12 (ninS ntb nin0)
  have Eb1 := Eb.keep K12
  show Run p e below _ T (mkF m 33 #[.val (.ref b), .val (.ref x), .val (.int (Int32.ofNat (ds).length))] [])
  refine s_aload_n w (hb hby dasa_33) rfl rfl (pc' := 34) rfl ?_
  refine s_dup w (hb hby dasa_34) rfl (pc' := 35) rfl ?_
  refine w_getF w (hw _ (List.mem_of_getElem? (i := 68) rfl)) Via.refl Nb1 (hb hby dasa_35) (pc' := 38) rfl fun T w => ?_
  refine s_iload_n w (hb hby dasa_38) rfl (pc' := 39) rfl ?_
  refine s_iadd w (hb hby dasa_39) (pc' := 40) rfl ?_
  rw [hcx, ← List.length_append]
  refine w_putF w (hw _ (List.mem_of_getElem? (i := 68) rfl)) Via.refl Nb1 Eb1 (Or.inl (hw _ (List.mem_of_getElem? (i := 69) rfl))) (hw _ (List.mem_of_getElem? (i := 29) rfl)) (ty := .int) (by decide) rfl rfl (hb hby dasa_40) (Or.inl (List.mem_of_getElem? (i := 0) rfl)) (Or.inl ⟨by decide, by decide⟩) (pc' := 43) rfl fun T g1 w W1 F1 X1' => ?_
  have sv : Jvm.RoadKit.slotOf Z ASB "value" "[B" ≠ Jvm.RoadKit.slotOf Z ASB "count" "I" := slot_ne (C := SBC) (Or.inl (hw _ (List.mem_of_getElem? (i := 43) rfl))) (Or.inl (hw _ (List.mem_of_getElem? (i := 69) rfl))) (by decide) (t := .array .byte) (t' := .int) (by decide) (by decide)
  have sc : Jvm.RoadKit.slotOf Z ASB "coder" "B" ≠ Jvm.RoadKit.slotOf Z ASB "count" "I" := slot_ne (C := SBC) (Or.inl (hw _ (List.mem_of_getElem? (i := 45) rfl))) (Or.inl (hw _ (List.mem_of_getElem? (i := 69) rfl))) (by decide) (t := .byte) (t' := .int) (by decide) (by decide)
  refine s_aload_n w (hb hby dasa_43) rfl rfl (pc' := 44) rfl ?_
  exact w_areturn w hEL hs hlk hret rfl rfl (hb hby dasa_44) (by decide) (by decide) ⟨rfl, X1', Vb1.other W1 (Or.inr sv), Cb1.other W1 (Or.inr sc), F1, P9.other W1 ntb.symm, by rw [List.length_append]; exact hfit, hcap2⟩
theorem dapp_0 : decode jdk_67_method_7_code 0 = .ok (.aload_n 0, 1) := by decide +kernel
theorem dapp_1 : decode jdk_67_method_7_code 1 = .ok (.aload_n 1, 1) := by decide +kernel
theorem dapp_2 : decode jdk_67_method_7_code 2 = .ok (.invokespecial 29, 3) := by decide +kernel
theorem dapp_5 : decode jdk_67_method_7_code 5 = .ok (.pop, 1) := by decide +kernel
theorem dapp_6 : decode jdk_67_method_7_code 6 = .ok (.aload_n 0, 1) := by decide +kernel
theorem dapp_7 : decode jdk_67_method_7_code 7 = .ok (.areturn, 1) := by decide +kernel
theorem pn_2 : plainName "java/lang/StringBuilder" = true := by first | (simp [plainName, overriddenIn]; done) | decide +kernel
theorem ef_app (m : MethodId) (b : Addr) (x : Addr) : entryFrame m #[.ref b, .ref x] 2 = mkF m 0 #[.val (.ref b), .val (.ref x)] [] := by first | (simp [entryFrame, mkF, argsToLocals, Value.category]; done) | rfl
set_option maxRecDepth 65536 in
set_option maxHeartbeats 40000000 in
theorem rm_app {l : Launch} {Z : State} {a0 : Array Value} {zc : Int32} {fm : Value} (G : Gl Z a0 zc fm) (h : Heap) (b : Addr) (x : Addr) (t tx : Addr) (kt kx : ClassId) (cap : Nat) (cs ds : List Int32) (B0 : Sb Z h b t kt cap cs) (X0 : SL Z h x tx kx ds) (hfit : cs.length + ds.length ≤ cap) :
    Met l Z consts_1 (⟨"java/lang/StringBuilder", "append", "(Ljava/lang/String;)Ljava/lang/StringBuilder;"⟩ : MethodName) jdk_67_method_7_code 2 (some (.object "java/lang/StringBuilder")) ({ frames := 4, cells := 0, slots := 0, locals := 83 } : Room) #[.ref b, .ref x] h [t] [b, t] (fun v h' => v = some (.ref b) ∧ Sb Z h' b t kt cap (cs ++ ds)) := by
  have G0 := G
  obtain ⟨hw, hEL, SC, hz, SF, hfm⟩ := G
  have hw1 : ∀ d ∈ StrChars.Road.words, d.before a0 Z = true := fun d q => hw d (sub1 d q)
  have hwA : ∀ d ∈ Bundle.stringAtoms, d.before a0 Z = true := fun d q => hw d (subA d q)
  have hw2 : ∀ d ∈ wordsS, d.before a0 Z = true := fun d q => hw d (sub2 d q)
  refine Met.of (plainFor_of_name pn_2) ?_
  intro p e s m below meth c T hnm hret hlk hby hml hs w
  have hZ0 := w.old
  refine Run.cast (ef_app m b x) ?_
  refine s_aload_n w (hb hby dapp_0) rfl rfl (pc' := 1) rfl ?_
  refine s_aload_n w (hb hby dapp_1) rfl rfl (pc' := 2) rfl ?_
  refine w_superN w hEL (y := (⟨"java/lang/AbstractStringBuilder", "append", "(Ljava/lang/String;)Ljava/lang/AbstractStringBuilder;"⟩ : MethodName)) (C := "java/lang/StringBuilder") (a := b) (by decide) (hw _ (List.mem_of_getElem? (i := 52) rfl)) (hw _ (List.mem_of_getElem? (i := 55) rfl)) (hw _ (List.mem_of_getElem? (i := 110) rfl)) rfl (hw _ (List.mem_of_getElem? (i := 54) rfl)) (hw _ (List.mem_of_getElem? (i := 53) rfl)) (hw _ (List.mem_of_getElem? (i := 38) rfl)) (hw _ (List.mem_of_getElem? (i := 56) rfl)) (by decide) B0.1 (rm_asa G0 h b x t tx kt kx cap cs ds B0 X0 hfit) (allS (List.mem_of_getElem? (i := 0) rfl) all0) (allS (Or.inl (List.mem_of_getElem? (i := 0) rfl)) (allS (Or.inl (List.mem_of_getElem? (i := 1) rfl)) all0)) (argsL := [.ref x]) (rest := []) (lenOf (by decide +kernel : parseMethodDescriptor "(Ljava/lang/String;)Ljava/lang/AbstractStringBuilder;" = some ⟨[(.object "java/lang/String")], (some (.object "java/lang/AbstractStringBuilder"))⟩) rfl) rfl rfl (hb hby dapp_2) (by rw [hml]; rfl) (W := 0) (Nat.le_of_eq rfl) (by decide) (by decide) (by decide) (by decide) (pc' := 5) rfl fun u1 N2 T h3 w K4 P5 => ?_
  obtain ⟨rfl, P6⟩ := P5
  obtain ⟨rfl, P9⟩ := P6
  show Run p e below _ T (mkF m 5 #[.val (.ref b), .val (.ref x)] [.ref b])
  refine s_pop w (hb hby dapp_5) rfl (pc' := 6) rfl ?_
  refine s_aload_n w (hb hby dapp_6) rfl rfl (pc' := 7) rfl ?_
  exact w_areturn w hEL hs hlk hret rfl rfl (hb hby dapp_7) (by decide) (by decide) ⟨rfl, P9⟩
theorem dabi_0 : decode jdk_68_method_2_code 0 = .ok (.aload_n 0, 1) := by decide +kernel
theorem dabi_1 : decode jdk_68_method_2_code 1 = .ok (.invokespecial 3, 3) := by decide +kernel
theorem dabi_4 : decode jdk_68_method_2_code 4 = .ok (.getstatic 18, 3) := by decide +kernel
theorem dabi_7 : decode jdk_68_method_2_code 7 = .ok (.ifCond .eq 18, 3) := by decide +kernel
theorem dabi_10 : decode jdk_68_method_2_code 10 = .ok (.aload_n 0, 1) := by decide +kernel
theorem dabi_11 : decode jdk_68_method_2_code 11 = .ok (.iload_n 1, 1) := by decide +kernel
theorem dabi_12 : decode jdk_68_method_2_code 12 = .ok (.newarray .byte, 2) := by decide +kernel
theorem dabi_14 : decode jdk_68_method_2_code 14 = .ok (.putfield 15, 3) := by decide +kernel
theorem dabi_17 : decode jdk_68_method_2_code 17 = .ok (.aload_n 0, 1) := by decide +kernel
theorem dabi_18 : decode jdk_68_method_2_code 18 = .ok (.iconst 0, 1) := by decide +kernel
theorem dabi_19 : decode jdk_68_method_2_code 19 = .ok (.putfield 22, 3) := by decide +kernel
theorem dabi_22 : decode jdk_68_method_2_code 22 = .ok (.goto 16, 3) := by decide +kernel
theorem dabi_25 : decode jdk_68_method_2_code 25 = .ok (.aload_n 0, 1) := by decide +kernel
theorem dabi_26 : decode jdk_68_method_2_code 26 = .ok (.iload_n 1, 1) := by decide +kernel
theorem dabi_27 : decode jdk_68_method_2_code 27 = .ok (.invokestatic 26, 3) := by decide +kernel
theorem dabi_30 : decode jdk_68_method_2_code 30 = .ok (.putfield 15, 3) := by decide +kernel
theorem dabi_33 : decode jdk_68_method_2_code 33 = .ok (.aload_n 0, 1) := by decide +kernel
theorem dabi_34 : decode jdk_68_method_2_code 34 = .ok (.iconst 1, 1) := by decide +kernel
theorem dabi_35 : decode jdk_68_method_2_code 35 = .ok (.putfield 22, 3) := by decide +kernel
theorem dabi_38 : decode jdk_68_method_2_code 38 = .ok (.return_, 1) := by decide +kernel
theorem ef_abi (m : MethodId) (b : Addr) : entryFrame m #[.ref b, .int 16] 2 = mkF m 0 #[.val (.ref b), .val (.int 16)] [] := by first | (simp [entryFrame, mkF, argsToLocals, Value.category]; done) | rfl
set_option maxRecDepth 65536 in
set_option maxHeartbeats 40000000 in
theorem rm_abi {l : Launch} {Z : State} {a0 : Array Value} {zc : Int32} {fm : Value} (G : Gl Z a0 zc fm) (h : Heap) (b : Addr) (v0 v1 : Value) (Eb : Exa Z h b SBC) (Vb : Fld Z h b ASB "value" "[B" v0) (Cb : Fld Z h b ASB "coder" "B" v1) (Nb : Fld Z h b ASB "count" "I" (.int 0)) :
    MetN l Z consts_1 (⟨"java/lang/AbstractStringBuilder", "<init>", "(I)V"⟩ : MethodName) jdk_68_method_2_code 2 none ({ frames := 1, cells := 1, slots := 16, locals := 12 } : Room) #[.ref b, .int 16] h [] [b] (fun v h' N => v = none ∧ ∃ t kt, N = [t] ∧ h.size ≤ t ∧ Sb Z h' b t kt 16 []) := by
  have G0 := G
  obtain ⟨hw, hEL, SC, hz, SF, hfm⟩ := G
  have hw1 : ∀ d ∈ StrChars.Road.words, d.before a0 Z = true := fun d q => hw d (sub1 d q)
  have hwA : ∀ d ∈ Bundle.stringAtoms, d.before a0 Z = true := fun d q => hw d (subA d q)
  have hw2 : ∀ d ∈ wordsS, d.before a0 Z = true := fun d q => hw d (sub2 d q)
  refine MetN.of (plainFor_of_name pn_1) ?_
  intro p e s m below meth c T hnm hret hlk hby hml hs w
  have hZ0 := w.old
  refine Run.cast (ef_abi m b) ?_
  refine s_aload_n w (hb hby dabi_0) rfl rfl (pc' := 1) rfl ?_
  refine w_objInit w (hw _ (List.mem_of_getElem? (i := 40) rfl)) (hw _ (List.mem_of_getElem? (i := 12) rfl)) (hw _ (List.mem_of_getElem? (i := 13) rfl)) (hb hby dabi_1) (by rw [hml]; rfl) (by decide) (W := 0) (Nat.le_of_eq rfl) (by decide) (pc' := 4) rfl fun T w => ?_
  refine w_getS w (hw _ (List.mem_of_getElem? (i := 41) rfl)) Via.refl (SC.ext w.old) (hb hby dabi_4) (pc' := 7) rfl fun T w => ?_
  refine s_if_eq w (hb hby dabi_7) (by decide) (pc1 := 10) rfl (pc2 := 25) rfl (fun ct1 => ?_) (fun ct1 => ?_)
  · skip
    refine s_aload_n w (hb hby dabi_10) rfl rfl (pc' := 11) rfl ?_
    refine s_iload_n w (hb hby dabi_11) rfl (pc' := 12) rfl ?_
    refine w_newP w (hw _ (List.mem_of_getElem? (i := 15) rfl)) rfl rfl (hb hby dabi_12) (by decide) (n := 16) (by decide) (by decide) (pc' := 14) rfl (by decide) (by decide) fun T h2 x3 k4 w E5 q6 r7 V8 => ?_
    refine w_putF w (hw _ (List.mem_of_getElem? (i := 42) rfl)) Via.refl (Vb.ext E5) (Eb.ext E5) (Or.inl (hw _ (List.mem_of_getElem? (i := 43) rfl))) (hw _ (List.mem_of_getElem? (i := 29) rfl)) (ty := (.array .byte)) (by decide) rfl rfl (hb hby dabi_14) (Or.inl (List.mem_singleton.mpr rfl)) (Or.inl ⟨by decide, by decide⟩) (pc' := 17) rfl fun T g1 w W1 F1 X1 => ?_
    have sc : Jvm.RoadKit.slotOf Z ASB "coder" "B" ≠ Jvm.RoadKit.slotOf Z ASB "value" "[B" := slot_ne (C := SBC) (Or.inl (hw _ (List.mem_of_getElem? (i := 45) rfl))) (Or.inl (hw _ (List.mem_of_getElem? (i := 43) rfl))) (by decide) (t := .byte) (t' := .array .byte) (by decide) (by decide)
    have sn : Jvm.RoadKit.slotOf Z ASB "count" "I" ≠ Jvm.RoadKit.slotOf Z ASB "value" "[B" := slot_ne (C := SBC) (Or.inl (hw _ (List.mem_of_getElem? (i := 69) rfl))) (Or.inl (hw _ (List.mem_of_getElem? (i := 43) rfl))) (by decide) (t := .int) (t' := .array .byte) (by decide) (by decide)
    have sm : Jvm.RoadKit.slotOf Z ASB "count" "I" ≠ Jvm.RoadKit.slotOf Z ASB "coder" "B" := slot_ne (C := SBC) (Or.inl (hw _ (List.mem_of_getElem? (i := 69) rfl))) (Or.inl (hw _ (List.mem_of_getElem? (i := 45) rfl))) (by decide) (t := .int) (t' := .byte) (by decide) (by decide)
    refine s_aload_n w (hb hby dabi_17) rfl rfl (pc' := 18) rfl ?_
    refine s_iconst w (hb hby dabi_18) (v := 0) rfl (pc' := 19) rfl ?_
    refine w_putF w (hw _ (List.mem_of_getElem? (i := 44) rfl)) Via.refl ((Cb.ext E5).other W1 (Or.inr sc)) X1 (Or.inl (hw _ (List.mem_of_getElem? (i := 45) rfl))) (hw _ (List.mem_of_getElem? (i := 29) rfl)) (ty := .byte) (by decide) rfl rfl (hb hby dabi_19) (Or.inl (List.mem_singleton.mpr rfl)) (Or.inl ⟨by decide, by decide⟩) (pc' := 22) rfl fun T g2 w W2 F2 X2 => ?_
    refine s_goto w (hb hby dabi_22) (by decide) (pc' := 38) rfl ?_
    have nbt : x3 ≠ b := (Exa.neArv (Eb.ext E5) V8 (hw _ (List.mem_of_getElem? (i := 29) rfl))).symm
    exact w_returnN w hEL hs hlk hret (hb hby dabi_38) (by decide) (by decide) (N := [x3]) (allS (List.mem_cons_self ..) all0) ⟨rfl, x3, _, rfl, q6, X2, F1.other W2 (Or.inr sc.symm), F2, ((Nb.ext E5).other W1 (Or.inr sn)).other W2 (Or.inr sm), by rw [room_nil]; exact (V8.other W1 nbt).other W2 nbt, Nat.zero_le _, by decide⟩
  · exact absurd ct1 hz
theorem dsbi_0 : decode jdk_67_method_1_code 0 = .ok (.aload_n 0, 1) := by decide +kernel
theorem dsbi_1 : decode jdk_67_method_1_code 1 = .ok (.bipush 16, 2) := by decide +kernel
theorem dsbi_3 : decode jdk_67_method_1_code 3 = .ok (.invokespecial 1, 3) := by decide +kernel
theorem dsbi_6 : decode jdk_67_method_1_code 6 = .ok (.return_, 1) := by decide +kernel
theorem ef_sbi (m : MethodId) (b : Addr) : entryFrame m #[.ref b] 1 = mkF m 0 #[.val (.ref b)] [] := by first | (simp [entryFrame, mkF, argsToLocals, Value.category]; done) | rfl
set_option maxRecDepth 65536 in
set_option maxHeartbeats 40000000 in
theorem rm_sbi {l : Launch} {Z : State} {a0 : Array Value} {zc : Int32} {fm : Value} (G : Gl Z a0 zc fm) (h : Heap) (b : Addr) (v0 v1 : Value) (Eb : Exa Z h b SBC) (Vb : Fld Z h b ASB "value" "[B" v0) (Cb : Fld Z h b ASB "coder" "B" v1) (Nb : Fld Z h b ASB "count" "I" (.int 0)) :
    MetN l Z consts_1 (⟨"java/lang/StringBuilder", "<init>", "()V"⟩ : MethodName) jdk_67_method_1_code 1 none ({ frames := 2, cells := 1, slots := 16, locals := 25 } : Room) #[.ref b] h [] [b] (fun v h' N => v = none ∧ ∃ t kt, N = [t] ∧ h.size ≤ t ∧ Sb Z h' b t kt 16 []) := by
  have G0 := G
  obtain ⟨hw, hEL, SC, hz, SF, hfm⟩ := G
  have hw1 : ∀ d ∈ StrChars.Road.words, d.before a0 Z = true := fun d q => hw d (sub1 d q)
  have hwA : ∀ d ∈ Bundle.stringAtoms, d.before a0 Z = true := fun d q => hw d (subA d q)
  have hw2 : ∀ d ∈ wordsS, d.before a0 Z = true := fun d q => hw d (sub2 d q)
  refine MetN.of (plainFor_of_name pn_2) ?_
  intro p e s m below meth c T hnm hret hlk hby hml hs w
  have hZ0 := w.old
  refine Run.cast (ef_sbi m b) ?_
  refine s_aload_n w (hb hby dsbi_0) rfl rfl (pc' := 1) rfl ?_
  refine s_bipush w (hb hby dsbi_1) (v := 16) rfl (pc' := 3) rfl ?_
  refine w_specialN w hEL (y := (⟨"java/lang/AbstractStringBuilder", "<init>", "(I)V"⟩ : MethodName)) (a := b) rfl (hw _ (List.mem_of_getElem? (i := 34) rfl)) (hw _ (List.mem_of_getElem? (i := 35) rfl)) (hw _ (List.mem_of_getElem? (i := 38) rfl)) (hw _ (List.mem_of_getElem? (i := 39) rfl)) (by decide) (rm_abi G0 h b v0 v1 Eb Vb Cb Nb) all0 (allS (Or.inl (List.mem_of_getElem? (i := 0) rfl)) all0) (argsL := [.int 16]) (rest := []) (lenOf (by decide +kernel : parseMethodDescriptor "(I)V" = some ⟨[.int], none⟩) rfl) rfl rfl (hb hby dsbi_3) (by rw [hml]; rfl) (W := 0) (Nat.le_of_eq rfl) (by decide) (by decide) (by decide) (by decide) (pc' := 6) rfl fun u1 N2 T h3 w K4 P5 => ?_
  obtain ⟨rfl, t, kt, rfl, P8, P9⟩ := P5
  show Run p e below _ T (mkF m 6 #[.val (.ref b)] [])
  exact w_returnN w hEL hs hlk hret (hb hby dsbi_6) (by decide) (by decide) (N := [t]) (allS (List.mem_cons_self ..) all0) ⟨rfl, t, kt, rfl, P8, P9⟩
theorem dmin_0 : decode jdk_29_method_69_code 0 = .ok (.iload_n 0, 1) := by decide +kernel
theorem dmin_1 : decode jdk_29_method_69_code 1 = .ok (.iload_n 1, 1) := by decide +kernel
theorem dmin_2 : decode jdk_29_method_69_code 2 = .ok (.if_icmp .gt 7, 3) := by decide +kernel
theorem dmin_5 : decode jdk_29_method_69_code 5 = .ok (.iload_n 0, 1) := by decide +kernel
theorem dmin_6 : decode jdk_29_method_69_code 6 = .ok (.goto 4, 3) := by decide +kernel
theorem dmin_9 : decode jdk_29_method_69_code 9 = .ok (.iload_n 1, 1) := by decide +kernel
theorem dmin_10 : decode jdk_29_method_69_code 10 = .ok (.ireturn, 1) := by decide +kernel
theorem ef_min (m : MethodId) (x : Int32) (y : Int32) : entryFrame m #[.int x, .int y] 2 = mkF m 0 #[.val (.int x), .val (.int y)] [] := by first | (simp [entryFrame, mkF, argsToLocals, Value.category]; done) | rfl
set_option maxRecDepth 65536 in
set_option maxHeartbeats 40000000 in
theorem rm_min {l : Launch} {Z : State} {a0 : Array Value} {zc : Int32} {fm : Value} (G : Gl Z a0 zc fm) (h : Heap) (x : Int32) (y : Int32)  :
    Met l Z consts_1 (⟨"java/lang/Math", "min", "(II)I"⟩ : MethodName) jdk_29_method_69_code 2 (some .int) ({ frames := 0, cells := 0, slots := 0, locals := 0 } : Room) #[.int x, .int y] h [] [] (fun v h' => v = some (.int (if y < x then y else x)) ∧ h = h') := by
  have G0 := G
  obtain ⟨hw, hEL, SC, hz, SF, hfm⟩ := G
  have hw1 : ∀ d ∈ StrChars.Road.words, d.before a0 Z = true := fun d q => hw d (sub1 d q)
  have hwA : ∀ d ∈ Bundle.stringAtoms, d.before a0 Z = true := fun d q => hw d (subA d q)
  have hw2 : ∀ d ∈ wordsS, d.before a0 Z = true := fun d q => hw d (sub2 d q)
  refine Met.of (by decide +kernel) ?_
  intro p e s m below meth c T hnm hret hlk hby hml hs w
  have hZ0 := w.old
  refine Run.cast (ef_min m x y) ?_
  refine s_iload_n w (hb hby dmin_0) rfl (pc' := 1) rfl ?_
  refine s_iload_n w (hb hby dmin_1) rfl (pc' := 2) rfl ?_
  refine s_icmp_gt w (hb hby dmin_2) (by decide) (pc1 := 5) rfl (pc2 := 9) rfl (fun ct1 => ?_) (fun ct1 => ?_)
  · -- ¬ (y < x)
    refine s_iload_n w (hb hby dmin_5) rfl (pc' := 6) rfl ?_
    refine s_goto w (hb hby dmin_6) (by decide) (pc' := 10) rfl ?_
    exact w_ireturn w hEL hs hlk hret rfl (Or.inl rfl) (hb hby dmin_10) (by decide) (by decide) ⟨by rw [if_neg ct1], rfl⟩
  · -- y < x
    refine s_iload_n w (hb hby dmin_9) rfl (pc' := 10) rfl ?_
    exact w_ireturn w hEL hs hlk hret rfl (Or.inl rfl) (hb hby dmin_10) (by decide) (by decide) ⟨by rw [if_pos ct1], rfl⟩
theorem dckl_0 : decode jdk_65_method_131_code 0 = .ok (.iload_n 1, 1) := by decide +kernel
theorem dckl_1 : decode jdk_65_method_131_code 1 = .ok (.iload_n 0, 1) := by decide +kernel
theorem dckl_2 : decode jdk_65_method_131_code 2 = .ok (.if_icmp .ge 35, 3) := by decide +kernel
theorem dckl_5 : decode jdk_65_method_131_code 5 = .ok (.new 43, 3) := by decide +kernel
theorem dckl_8 : decode jdk_65_method_131_code 8 = .ok (.dup, 1) := by decide +kernel
theorem dckl_9 : decode jdk_65_method_131_code 9 = .ok (.new 45, 3) := by decide +kernel
theorem dckl_12 : decode jdk_65_method_131_code 12 = .ok (.dup, 1) := by decide +kernel
theorem dckl_13 : decode jdk_65_method_131_code 13 = .ok (.invokespecial 47, 3) := by decide +kernel
theorem dckl_16 : decode jdk_65_method_131_code 16 = .ok (.iload_n 0, 1) := by decide +kernel
theorem dckl_17 : decode jdk_65_method_131_code 17 = .ok (.invokevirtual 54, 3) := by decide +kernel
theorem dckl_20 : decode jdk_65_method_131_code 20 = .ok (.ldc_w 337, 3) := by decide +kernel
theorem dckl_23 : decode jdk_65_method_131_code 23 = .ok (.invokevirtual 50, 3) := by decide +kernel
theorem dckl_26 : decode jdk_65_method_131_code 26 = .ok (.iload_n 1, 1) := by decide +kernel
theorem dckl_27 : decode jdk_65_method_131_code 27 = .ok (.invokevirtual 54, 3) := by decide +kernel
theorem dckl_30 : decode jdk_65_method_131_code 30 = .ok (.invokevirtual 61, 3) := by decide +kernel
theorem dckl_33 : decode jdk_65_method_131_code 33 = .ok (.invokespecial 65, 3) := by decide +kernel
theorem dckl_36 : decode jdk_65_method_131_code 36 = .ok (.athrow, 1) := by decide +kernel
theorem dckl_37 : decode jdk_65_method_131_code 37 = .ok (.return_, 1) := by decide +kernel
theorem pn_3 : plainName "java/util/Arrays" = true := by first | (simp [plainName, overriddenIn]; done) | decide +kernel
theorem ef_ckl (m : MethodId) (N : Int32) : entryFrame m #[.int 0, .int N] 2 = mkF m 0 #[.val (.int 0), .val (.int N)] [] := by first | (simp [entryFrame, mkF, argsToLocals, Value.category]; done) | rfl
set_option maxRecDepth 65536 in
set_option maxHeartbeats 40000000 in
theorem rm_ckl {l : Launch} {Z : State} {a0 : Array Value} {zc : Int32} {fm : Value} (G : Gl Z a0 zc fm) (h : Heap) (N : Int32) (n : Nat) (hN : N = Int32.ofNat n) (hn : n ≤ 2000) :
    Met l Z consts_1 (⟨"java/util/Arrays", "checkLength", "(II)V"⟩ : MethodName) jdk_65_method_131_code 2 none ({ frames := 0, cells := 0, slots := 0, locals := 0 } : Room) #[.int 0, .int N] h [] [] (fun v h' => v = none ∧ h = h') := by
  have G0 := G
  obtain ⟨hw, hEL, SC, hz, SF, hfm⟩ := G
  have hw1 : ∀ d ∈ StrChars.Road.words, d.before a0 Z = true := fun d q => hw d (sub1 d q)
  have hwA : ∀ d ∈ Bundle.stringAtoms, d.before a0 Z = true := fun d q => hw d (subA d q)
  have hw2 : ∀ d ∈ wordsS, d.before a0 Z = true := fun d q => hw d (sub2 d q)
  refine Met.of (plainFor_of_name pn_3) ?_
  intro p e s m below meth c T hnm hret hlk hby hml hs w
  have hZ0 := w.old
  refine Run.cast (ef_ckl m N) ?_
  refine s_iload_n w (hb hby dckl_0) rfl (pc' := 1) rfl ?_
  refine s_iload_n w (hb hby dckl_1) rfl (pc' := 2) rfl ?_
  refine s_icmp_ge w (hb hby dckl_2) (by decide) (pc1 := 5) rfl (pc2 := 37) rfl (fun ct1 => ?_) (fun ct1 => ?_)
  · exact absurd ct1 (by rw [hN]; exact ofNat_lt (by omega))
  · skip
    exact w_return w hEL hs hlk hret (hb hby dckl_37) (by decide) (by decide) ⟨rfl, rfl⟩
theorem dcrb_0 : decode jdk_65_method_133_code 0 = .ok (.iload_n 1, 1) := by decide +kernel
theorem dcrb_1 : decode jdk_65_method_133_code 1 = .ok (.iload_n 2, 1) := by decide +kernel
theorem dcrb_2 : decode jdk_65_method_133_code 2 = .ok (.invokestatic 343, 3) := by decide +kernel
theorem dcrb_5 : decode jdk_65_method_133_code 5 = .ok (.iload_n 2, 1) := by decide +kernel
theorem dcrb_6 : decode jdk_65_method_133_code 6 = .ok (.iload_n 1, 1) := by decide +kernel
theorem dcrb_7 : decode jdk_65_method_133_code 7 = .ok (.isub, 1) := by decide +kernel
theorem dcrb_8 : decode jdk_65_method_133_code 8 = .ok (.istore_n 3, 1) := by decide +kernel
theorem dcrb_9 : decode jdk_65_method_133_code 9 = .ok (.iload_n 3, 1) := by decide +kernel
theorem dcrb_10 : decode jdk_65_method_133_code 10 = .ok (.newarray .byte, 2) := by decide +kernel
theorem dcrb_12 : decode jdk_65_method_133_code 12 = .ok (.astore 4, 2) := by decide +kernel
theorem dcrb_14 : decode jdk_65_method_133_code 14 = .ok (.aload_n 0, 1) := by decide +kernel
theorem dcrb_15 : decode jdk_65_method_133_code 15 = .ok (.iload_n 1, 1) := by decide +kernel
theorem dcrb_16 : decode jdk_65_method_133_code 16 = .ok (.aload 4, 2) := by decide +kernel
theorem dcrb_18 : decode jdk_65_method_133_code 18 = .ok (.iconst 0, 1) := by decide +kernel
theorem dcrb_19 : decode jdk_65_method_133_code 19 = .ok (.aload_n 0, 1) := by decide +kernel
theorem dcrb_20 : decode jdk_65_method_133_code 20 = .ok (.arraylength, 1) := by decide +kernel
theorem dcrb_21 : decode jdk_65_method_133_code 21 = .ok (.iload_n 1, 1) := by decide +kernel
theorem dcrb_22 : decode jdk_65_method_133_code 22 = .ok (.isub, 1) := by decide +kernel
theorem dcrb_23 : decode jdk_65_method_133_code 23 = .ok (.iload_n 3, 1) := by decide +kernel
theorem dcrb_24 : decode jdk_65_method_133_code 24 = .ok (.invokestatic 304, 3) := by decide +kernel
theorem dcrb_27 : decode jdk_65_method_133_code 27 = .ok (.invokestatic 150, 3) := by decide +kernel
theorem dcrb_30 : decode jdk_65_method_133_code 30 = .ok (.aload 4, 2) := by decide +kernel
theorem dcrb_32 : decode jdk_65_method_133_code 32 = .ok (.areturn, 1) := by decide +kernel
theorem ef_crb (m : MethodId) (t : Addr) (N : Int32) : entryFrame m #[.ref t, .int 0, .int N] 5 = mkF m 0 #[.val (.ref t), .val (.int 0), .val (.int N), .unset, .unset] [] := by first | (simp [entryFrame, mkF, argsToLocals, Value.category]; done) | rfl
set_option maxRecDepth 65536 in
set_option maxHeartbeats 40000000 in
theorem rm_crb {l : Launch} {Z : State} {a0 : Array Value} {zc : Int32} {fm : Value} (G : Gl Z a0 zc fm) (h : Heap) (t : Addr) (N : Int32) (n cap : Nat) (kt : ClassId) (vs : List Value) (hN : N = Int32.ofNat n) (hlt : n < cap) (hc2 : cap ≤ 2000) (hnB : n ≤ 16) (At : Arv Z h t kt .byte (Int32.ofNat cap) vs (.int 0)) (hvl : vs.length = cap) :
    Met l Z consts_1 (⟨"java/util/Arrays", "copyOfRangeByte", "([BII)[B"⟩ : MethodName) jdk_65_method_133_code 5 (some (.array .byte)) ({ frames := 1, cells := 1, slots := 16, locals := 40 } : Room) #[.ref t, .int 0, .int N] h [] [] (fun v h' => ∃ u ku, v = some (.ref u) ∧ h.size ≤ u ∧ Arv Z h' u ku .byte N (vs.take n) (.int 0)) := by
  have G0 := G
  obtain ⟨hw, hEL, SC, hz, SF, hfm⟩ := G
  have hw1 : ∀ d ∈ StrChars.Road.words, d.before a0 Z = true := fun d q => hw d (sub1 d q)
  have hwA : ∀ d ∈ Bundle.stringAtoms, d.before a0 Z = true := fun d q => hw d (subA d q)
  have hw2 : ∀ d ∈ wordsS, d.before a0 Z = true := fun d q => hw d (sub2 d q)
  refine Met.of (plainFor_of_name pn_3) ?_
  intro p e s m below meth c T hnm hret hlk hby hml hs w
  have hZ0 := w.old
  refine Run.cast (ef_crb m t N) ?_
  refine s_iload_n w (hb hby dcrb_0) rfl (pc' := 1) rfl ?_
  refine s_iload_n w (hb hby dcrb_1) rfl (pc' := 2) rfl ?_
  refine w_staticN w hEL (y := (⟨"java/util/Arrays", "checkLength", "(II)V"⟩ : MethodName)) (hw _ (List.mem_of_getElem? (i := 132) rfl)) (hw _ (List.mem_of_getElem? (i := 133) rfl)) (hw _ (List.mem_of_getElem? (i := 127) rfl)) (hw _ (List.mem_of_getElem? (i := 134) rfl)) (by decide) (rm_ckl G0 h N n hN (by omega)) all0 all0 (argsL := [.int 0, .int N]) (rest := []) (lenOf (by decide +kernel : parseMethodDescriptor "(II)V" = some ⟨[.int, .int], none⟩) rfl) rfl rfl (hb hby dcrb_2) (by rw [hml]; rfl) (W := 0) (Nat.le_of_eq rfl) (by decide) (by decide) (by decide) (by decide) (pc' := 5) rfl fun u1 N2 T h3 w K4 P5 => ?_
  obtain ⟨rfl, P6⟩ := P5
  obtain ⟨rfl, rfl⟩ := P6
  show Run p e below _ T (mkF m 5 #[.val (.ref t), .val (.int 0), .val (.int N), .unset, .unset] [])
  refine s_iload_n w (hb hby dcrb_5) rfl (pc' := 6) rfl ?_
  refine s_iload_n w (hb hby dcrb_6) rfl (pc' := 7) rfl ?_
  refine s_isub w (hb hby dcrb_7) (pc' := 8) rfl ?_
  rw [Int32.sub_zero]
  refine s_istore_n w #[.val (.ref t), .val (.int 0), .val (.int N), .val (.int N), .unset] (hb hby dcrb_8) rfl (pc' := 9) rfl ?_
  refine s_iload_n w (hb hby dcrb_9) rfl (pc' := 10) rfl ?_
  refine w_newP w (hw _ (List.mem_of_getElem? (i := 15) rfl)) rfl (dv := .int 0) rfl (hb hby dcrb_10) (by rw [hN]; exact ofNat_lt (by omega)) (n := n) (by rw [hN]; exact Nat.le_of_eq (ofNat_nat (by omega))) (by omega) (pc' := 12) rfl (by decide) (by first | omega | (dsimp only; omega)) fun T h7 x8 k9 w E10 q11 r12 V13 => ?_
  have w := w.mono (slots' := 16) (Nat.le_refl _) (by first | omega | (dsimp only; omega))
  refine s_astore w #[.val (.ref t), .val (.int 0), .val (.int N), .val (.int N), .val (.ref x8)] (hb hby dcrb_12) rfl rfl (pc' := 14) rfl ?_
  refine s_aload_n w (hb hby dcrb_14) rfl rfl (pc' := 15) rfl ?_
  refine s_iload_n w (hb hby dcrb_15) rfl (pc' := 16) rfl ?_
  refine s_aload w (hb hby dcrb_16) rfl rfl (pc' := 18) rfl ?_
  refine s_iconst w (hb hby dcrb_18) (v := 0) rfl (pc' := 19) rfl ?_
  refine s_aload_n w (hb hby dcrb_19) rfl rfl (pc' := 20) rfl ?_
  refine w_len w (At.ext E10) (hb hby dcrb_20) (pc' := 21) rfl ?_
  refine s_iload_n w (hb hby dcrb_21) rfl (pc' := 22) rfl ?_
  refine s_isub w (hb hby dcrb_22) (pc' := 23) rfl ?_
  rw [Int32.sub_zero]
  refine s_iload_n w (hb hby dcrb_23) rfl (pc' := 24) rfl ?_
  refine w_staticN w hEL (y := (⟨"java/lang/Math", "min", "(II)I"⟩ : MethodName)) (hw _ (List.mem_of_getElem? (i := 135) rfl)) (hw _ (List.mem_of_getElem? (i := 136) rfl)) (hw _ (List.mem_of_getElem? (i := 137) rfl)) (hw _ (List.mem_of_getElem? (i := 138) rfl)) (by decide) (rm_min G0 h7 (Int32.ofNat cap) N) all0 all0 (argsL := [.int (Int32.ofNat cap), .int N]) (rest := [.int 0, .ref x8, .int 0, .ref t]) (lenOf (by decide +kernel : parseMethodDescriptor "(II)I" = some ⟨[.int, .int], (some .int)⟩) rfl) rfl rfl (hb hby dcrb_24) (by rw [hml]; rfl) (W := 4) (Nat.le_of_eq rfl) (by decide) (by decide) (by decide) (by decide) (pc' := 27) rfl fun u14 N15 T h16 w K17 P18 => ?_
  obtain ⟨rfl, P19⟩ := P18
  obtain ⟨rfl, rfl⟩ := P19
  rw [if_pos (by rw [hN]; exact (ofNat_cmp (by omega) (by omega)).mpr hlt)]
  show Run p e below _ T (mkF m 27 #[.val (.ref t), .val (.int 0), .val (.int N), .val (.int N), .val (.ref x8)] [.int N, .int 0, .ref x8, .int 0, .ref t])
  refine w_copyB w (hw _ (List.mem_of_getElem? (i := 139) rfl)) (hw _ (List.mem_of_getElem? (i := 94) rfl)) (hw _ (List.mem_of_getElem? (i := 92) rfl)) (hw _ (List.mem_of_getElem? (i := 93) rfl)) (is := 0) (id := 0) (n := n) (us := (vs.take n)) (At.ext E10) V13 rfl rfl hN (by omega) (by omega) (by omega) (by rw [ofNat_nat (by omega)]; omega) (by rw [hN, ofNat_nat (by omega)]; omega) (range_take (by omega)) (by simp) (List.mem_of_getElem? (i := 0) rfl) (Or.inr r12) rfl (hb hby dcrb_27) (by rw [hml]; rfl) (by decide) (W := 0) (Nat.le_of_eq rfl) (by decide) (pc' := 30) rfl fun T h20 w K21 F22 => ?_
  refine s_aload w (hb hby dcrb_30) rfl rfl (pc' := 32) rfl ?_
  exact w_areturn w hEL hs hlk hret rfl rfl (hb hby dcrb_32) (by decide) (by decide) ⟨x8, _, rfl, q11, by simpa using F22⟩
theorem dcor_0 : decode jdk_65_method_132_code 0 = .ok (.iload_n 1, 1) := by decide +kernel
theorem dcor_1 : decode jdk_65_method_132_code 1 = .ok (.ifCond .ne 9, 3) := by decide +kernel
theorem dcor_4 : decode jdk_65_method_132_code 4 = .ok (.iload_n 2, 1) := by decide +kernel
theorem dcor_5 : decode jdk_65_method_132_code 5 = .ok (.aload_n 0, 1) := by decide +kernel
theorem dcor_6 : decode jdk_65_method_132_code 6 = .ok (.arraylength, 1) := by decide +kernel
theorem dcor_7 : decode jdk_65_method_132_code 7 = .ok (.if_icmp .eq 10, 3) := by decide +kernel
theorem dcor_10 : decode jdk_65_method_132_code 10 = .ok (.aload_n 0, 1) := by decide +kernel
theorem dcor_11 : decode jdk_65_method_132_code 11 = .ok (.iload_n 1, 1) := by decide +kernel
theorem dcor_12 : decode jdk_65_method_132_code 12 = .ok (.iload_n 2, 1) := by decide +kernel
theorem dcor_13 : decode jdk_65_method_132_code 13 = .ok (.invokestatic 339, 3) := by decide +kernel
theorem dcor_16 : decode jdk_65_method_132_code 16 = .ok (.areturn, 1) := by decide +kernel
theorem dcor_17 : decode jdk_65_method_132_code 17 = .ok (.aload_n 0, 1) := by decide +kernel
theorem dcor_18 : decode jdk_65_method_132_code 18 = .ok (.invokevirtual 310, 3) := by decide +kernel
theorem dcor_21 : decode jdk_65_method_132_code 21 = .ok (.checkcast 311, 3) := by decide +kernel
theorem dcor_24 : decode jdk_65_method_132_code 24 = .ok (.areturn, 1) := by decide +kernel
theorem ef_cor (m : MethodId) (t : Addr) (N : Int32) : entryFrame m #[.ref t, .int 0, .int N] 3 = mkF m 0 #[.val (.ref t), .val (.int 0), .val (.int N)] [] := by first | (simp [entryFrame, mkF, argsToLocals, Value.category]; done) | rfl
set_option maxRecDepth 65536 in
set_option maxHeartbeats 40000000 in
theorem rm_cor {l : Launch} {Z : State} {a0 : Array Value} {zc : Int32} {fm : Value} (G : Gl Z a0 zc fm) (h : Heap) (t : Addr) (N : Int32) (n cap : Nat) (kt : ClassId) (vs : List Value) (hN : N = Int32.ofNat n) (hlt : n < cap) (hc2 : cap ≤ 2000) (hnB : n ≤ 16) (At : Arv Z h t kt .byte (Int32.ofNat cap) vs (.int 0)) (hvl : vs.length = cap) :
    Met l Z consts_1 (⟨"java/util/Arrays", "copyOfRange", "([BII)[B"⟩ : MethodName) jdk_65_method_132_code 3 (some (.array .byte)) ({ frames := 2, cells := 1, slots := 16, locals := 56 } : Room) #[.ref t, .int 0, .int N] h [] [] (fun v h' => ∃ u ku, v = some (.ref u) ∧ h.size ≤ u ∧ Arv Z h' u ku .byte N (vs.take n) (.int 0)) := by
  have G0 := G
  obtain ⟨hw, hEL, SC, hz, SF, hfm⟩ := G
  have hw1 : ∀ d ∈ StrChars.Road.words, d.before a0 Z = true := fun d q => hw d (sub1 d q)
  have hwA : ∀ d ∈ Bundle.stringAtoms, d.before a0 Z = true := fun d q => hw d (subA d q)
  have hw2 : ∀ d ∈ wordsS, d.before a0 Z = true := fun d q => hw d (sub2 d q)
  refine Met.of (plainFor_of_name pn_3) ?_
  intro p e s m below meth c T hnm hret hlk hby hml hs w
  have hZ0 := w.old
  refine Run.cast (ef_cor m t N) ?_
  refine s_iload_n w (hb hby dcor_0) rfl (pc' := 1) rfl ?_
  refine s_if_ne w (hb hby dcor_1) (by decide) (pc1 := 4) rfl (pc2 := 10) rfl (fun _ => ?_) (fun q => absurd q (by decide))
  refine s_iload_n w (hb hby dcor_4) rfl (pc' := 5) rfl ?_
  refine s_aload_n w (hb hby dcor_5) rfl rfl (pc' := 6) rfl ?_
  refine w_len w At (hb hby dcor_6) (pc' := 7) rfl ?_
  refine s_icmp_eq w (hb hby dcor_7) (by decide) (pc1 := 10) rfl (pc2 := 17) rfl (fun ct2 => ?_) (fun ct2 => ?_)
  · skip
    refine s_aload_n w (hb hby dcor_10) rfl rfl (pc' := 11) rfl ?_
    refine s_iload_n w (hb hby dcor_11) rfl (pc' := 12) rfl ?_
    refine s_iload_n w (hb hby dcor_12) rfl (pc' := 13) rfl ?_
    refine w_staticN w hEL (y := (⟨"java/util/Arrays", "copyOfRangeByte", "([BII)[B"⟩ : MethodName)) (hw _ (List.mem_of_getElem? (i := 129) rfl)) (hw _ (List.mem_of_getElem? (i := 130) rfl)) (hw _ (List.mem_of_getElem? (i := 127) rfl)) (hw _ (List.mem_of_getElem? (i := 131) rfl)) (by decide) (rm_crb G0 h t N n cap kt vs hN hlt hc2 hnB At hvl) all0 all0 (argsL := [.ref t, .int 0, .int N]) (rest := []) (lenOf (by decide +kernel : parseMethodDescriptor "([BII)[B" = some ⟨[(.array .byte), .int, .int], (some (.array .byte))⟩) rfl) rfl rfl (hb hby dcor_13) (by rw [hml]; rfl) (W := 0) (Nat.le_of_eq rfl) (by decide) (by decide) (by decide) (by decide) (pc' := 16) rfl fun u3 N4 T h5 w K6 P7 => ?_
    obtain ⟨rfl, P8⟩ := P7
    obtain ⟨u, ku, rfl, P8, P9⟩ := P8
    show Run p e below _ T (mkF m 16 #[.val (.ref t), .val (.int 0), .val (.int N)] [.ref u])
    exact w_areturn w hEL hs hlk hret rfl rfl (hb hby dcor_16) (by decide) (by decide) ⟨u, ku, rfl, P8, P9⟩
  · exact absurd (ofN_inj' (by omega) (by omega) (hN.symm.trans ct2)) (by omega)
theorem dgv_0 : decode jdk_68_method_64_code 0 = .ok (.aload_n 0, 1) := by decide +kernel
theorem dgv_1 : decode jdk_68_method_64_code 1 = .ok (.getfield 15, 3) := by decide +kernel
theorem dgv_4 : decode jdk_68_method_64_code 4 = .ok (.areturn, 1) := by decide +kernel
theorem ef_gv (m : MethodId) (b : Addr) : entryFrame m #[.ref b] 1 = mkF m 0 #[.val (.ref b)] [] := by first | (simp [entryFrame, mkF, argsToLocals, Value.category]; done) | rfl
set_option maxRecDepth 65536 in
set_option maxHeartbeats 40000000 in
theorem rm_gv {l : Launch} {Z : State} {a0 : Array Value} {zc : Int32} {fm : Value} (G : Gl Z a0 zc fm) (h : Heap) (b : Addr) (t : Addr) (F : Fld Z h b ASB "value" "[B" (.ref t)) :
    Met l Z consts_1 (⟨"java/lang/AbstractStringBuilder", "getValue", "()[B"⟩ : MethodName) jdk_68_method_64_code 1 (some (.array .byte)) ({ frames := 0, cells := 0, slots := 0, locals := 0 } : Room) #[.ref b] h [] [] (fun v h' => v = some (.ref t) ∧ h = h') := by
  have G0 := G
  obtain ⟨hw, hEL, SC, hz, SF, hfm⟩ := G
  have hw1 : ∀ d ∈ StrChars.Road.words, d.before a0 Z = true := fun d q => hw d (sub1 d q)
  have hwA : ∀ d ∈ Bundle.stringAtoms, d.before a0 Z = true := fun d q => hw d (subA d q)
  have hw2 : ∀ d ∈ wordsS, d.before a0 Z = true := fun d q => hw d (sub2 d q)
  refine Met.of (plainFor_of_name pn_1) ?_
  intro p e s m below meth c T hnm hret hlk hby hml hs w
  have hZ0 := w.old
  refine Run.cast (ef_gv m b) ?_
  refine s_aload_n w (hb hby dgv_0) rfl rfl (pc' := 1) rfl ?_
  refine w_getF w (hw _ (List.mem_of_getElem? (i := 42) rfl)) Via.refl F (hb hby dgv_1) (pc' := 4) rfl fun T w => ?_
  exact w_areturn w hEL hs hlk hret rfl rfl (hb hby dgv_4) (by decide) (by decide) ⟨rfl, rfl⟩
theorem daln_0 : decode jdk_68_method_6_code 0 = .ok (.aload_n 0, 1) := by decide +kernel
theorem daln_1 : decode jdk_68_method_6_code 1 = .ok (.getfield 79, 3) := by decide +kernel
theorem daln_4 : decode jdk_68_method_6_code 4 = .ok (.ireturn, 1) := by decide +kernel
theorem ef_aln (m : MethodId) (b : Addr) : entryFrame m #[.ref b] 1 = mkF m 0 #[.val (.ref b)] [] := by first | (simp [entryFrame, mkF, argsToLocals, Value.category]; done) | rfl
set_option maxRecDepth 65536 in
set_option maxHeartbeats 40000000 in
theorem rm_aln {l : Launch} {Z : State} {a0 : Array Value} {zc : Int32} {fm : Value} (G : Gl Z a0 zc fm) (h : Heap) (b : Addr) (n0 : Int32) (F : Fld Z h b ASB "count" "I" (.int n0)) :
    Met l Z consts_1 (⟨"java/lang/AbstractStringBuilder", "length", "()I"⟩ : MethodName) jdk_68_method_6_code 1 (some .int) ({ frames := 0, cells := 0, slots := 0, locals := 0 } : Room) #[.ref b] h [] [] (fun v h' => v = some (.int n0) ∧ h = h') := by
  have G0 := G
  obtain ⟨hw, hEL, SC, hz, SF, hfm⟩ := G
  have hw1 : ∀ d ∈ StrChars.Road.words, d.before a0 Z = true := fun d q => hw d (sub1 d q)
  have hwA : ∀ d ∈ Bundle.stringAtoms, d.before a0 Z = true := fun d q => hw d (subA d q)
  have hw2 : ∀ d ∈ wordsS, d.before a0 Z = true := fun d q => hw d (sub2 d q)
  refine Met.of (plainFor_of_name pn_1) ?_
  intro p e s m below meth c T hnm hret hlk hby hml hs w
  have hZ0 := w.old
  refine Run.cast (ef_aln m b) ?_
  refine s_aload_n w (hb hby daln_0) rfl rfl (pc' := 1) rfl ?_
  refine w_getF w (hw _ (List.mem_of_getElem? (i := 68) rfl)) Via.refl F (hb hby daln_1) (pc' := 4) rfl fun T w => ?_
  exact w_ireturn w hEL hs hlk hret rfl (Or.inl rfl) (hb hby daln_4) (by decide) (by decide) ⟨rfl, rfl⟩
theorem dsln_0 : decode jdk_67_method_93_code 0 = .ok (.aload_n 0, 1) := by decide +kernel
theorem dsln_1 : decode jdk_67_method_93_code 1 = .ok (.invokespecial 343, 3) := by decide +kernel
theorem dsln_4 : decode jdk_67_method_93_code 4 = .ok (.ireturn, 1) := by decide +kernel
theorem ef_sln (m : MethodId) (b : Addr) : entryFrame m #[.ref b] 1 = mkF m 0 #[.val (.ref b)] [] := by first | (simp [entryFrame, mkF, argsToLocals, Value.category]; done) | rfl
set_option maxRecDepth 65536 in
set_option maxHeartbeats 40000000 in
theorem rm_sln {l : Launch} {Z : State} {a0 : Array Value} {zc : Int32} {fm : Value} (G : Gl Z a0 zc fm) (h : Heap) (b : Addr) (n0 : Int32) (E : Exa Z h b SBC) (F : Fld Z h b ASB "count" "I" (.int n0)) :
    Met l Z consts_1 (⟨"java/lang/StringBuilder", "length", "()I"⟩ : MethodName) jdk_67_method_93_code 1 (some .int) ({ frames := 1, cells := 0, slots := 0, locals := 12 } : Room) #[.ref b] h [] [] (fun v h' => v = some (.int n0) ∧ h = h') := by
  have G0 := G
  obtain ⟨hw, hEL, SC, hz, SF, hfm⟩ := G
  have hw1 : ∀ d ∈ StrChars.Road.words, d.before a0 Z = true := fun d q => hw d (sub1 d q)
  have hwA : ∀ d ∈ Bundle.stringAtoms, d.before a0 Z = true := fun d q => hw d (subA d q)
  have hw2 : ∀ d ∈ wordsS, d.before a0 Z = true := fun d q => hw d (sub2 d q)
  refine Met.of (plainFor_of_name pn_2) ?_
  intro p e s m below meth c T hnm hret hlk hby hml hs w
  have hZ0 := w.old
  refine Run.cast (ef_sln m b) ?_
  refine s_aload_n w (hb hby dsln_0) rfl rfl (pc' := 1) rfl ?_
  refine w_superN w hEL (y := (⟨"java/lang/AbstractStringBuilder", "length", "()I"⟩ : MethodName)) (C := "java/lang/StringBuilder") (a := b) (by decide) (hw _ (List.mem_of_getElem? (i := 118) rfl)) (hw _ (List.mem_of_getElem? (i := 113) rfl)) (hw _ (List.mem_of_getElem? (i := 110) rfl)) rfl (hw _ (List.mem_of_getElem? (i := 54) rfl)) (hw _ (List.mem_of_getElem? (i := 114) rfl)) (hw _ (List.mem_of_getElem? (i := 38) rfl)) (hw _ (List.mem_of_getElem? (i := 119) rfl)) (by decide) E (rm_aln G0 h b n0 F) all0 all0 (argsL := []) (rest := []) (lenOf (by decide +kernel : parseMethodDescriptor "()I" = some ⟨[], (some .int)⟩) rfl) rfl rfl (hb hby dsln_1) (by rw [hml]; rfl) (W := 0) (Nat.le_of_eq rfl) (by decide) (by decide) (by decide) (by decide) (pc' := 4) rfl fun u1 N2 T h3 w K4 P5 => ?_
  obtain ⟨rfl, P6⟩ := P5
  obtain ⟨rfl, rfl⟩ := P6
  show Run p e below _ T (mkF m 4 #[.val (.ref b)] [.int n0])
  exact w_ireturn w hEL hs hlk hret rfl (Or.inl rfl) (hb hby dsln_4) (by decide) (by decide) ⟨rfl, rfl⟩
theorem dail_0 : decode jdk_68_method_68_code 0 = .ok (.getstatic 18, 3) := by decide +kernel
theorem dail_3 : decode jdk_68_method_68_code 3 = .ok (.ifCond .eq 14, 3) := by decide +kernel
theorem dail_6 : decode jdk_68_method_68_code 6 = .ok (.aload_n 0, 1) := by decide +kernel
theorem dail_7 : decode jdk_68_method_68_code 7 = .ok (.getfield 22, 3) := by decide +kernel
theorem dail_10 : decode jdk_68_method_68_code 10 = .ok (.ifCond .ne 7, 3) := by decide +kernel
theorem dail_13 : decode jdk_68_method_68_code 13 = .ok (.iconst 1, 1) := by decide +kernel
theorem dail_14 : decode jdk_68_method_68_code 14 = .ok (.goto 4, 3) := by decide +kernel
theorem dail_17 : decode jdk_68_method_68_code 17 = .ok (.iconst 0, 1) := by decide +kernel
theorem dail_18 : decode jdk_68_method_68_code 18 = .ok (.ireturn, 1) := by decide +kernel
theorem ef_ail (m : MethodId) (b : Addr) : entryFrame m #[.ref b] 1 = mkF m 0 #[.val (.ref b)] [] := by first | (simp [entryFrame, mkF, argsToLocals, Value.category]; done) | rfl
set_option maxRecDepth 65536 in
set_option maxHeartbeats 40000000 in
theorem rm_ail {l : Launch} {Z : State} {a0 : Array Value} {zc : Int32} {fm : Value} (G : Gl Z a0 zc fm) (h : Heap) (b : Addr) (F : Fld Z h b ASB "coder" "B" (.int 0)) :
    Met l Z consts_1 (⟨"java/lang/AbstractStringBuilder", "isLatin1", "()Z"⟩ : MethodName) jdk_68_method_68_code 1 (some .boolean) ({ frames := 0, cells := 0, slots := 0, locals := 0 } : Room) #[.ref b] h [] [] (fun v h' => v = some (.int 1) ∧ h = h') := by
  have G0 := G
  obtain ⟨hw, hEL, SC, hz, SF, hfm⟩ := G
  have hw1 : ∀ d ∈ StrChars.Road.words, d.before a0 Z = true := fun d q => hw d (sub1 d q)
  have hwA : ∀ d ∈ Bundle.stringAtoms, d.before a0 Z = true := fun d q => hw d (subA d q)
  have hw2 : ∀ d ∈ wordsS, d.before a0 Z = true := fun d q => hw d (sub2 d q)
  refine Met.of (plainFor_of_name pn_1) ?_
  intro p e s m below meth c T hnm hret hlk hby hml hs w
  have hZ0 := w.old
  refine Run.cast (ef_ail m b) ?_
  refine w_getS w (hw _ (List.mem_of_getElem? (i := 41) rfl)) Via.refl (SC.ext w.old) (hb hby dail_0) (pc' := 3) rfl fun T w => ?_
  refine s_if_eq w (hb hby dail_3) (by decide) (pc1 := 6) rfl (pc2 := 17) rfl (fun ct1 => ?_) (fun ct1 => ?_)
  · -- ¬ (zc = 0)
    refine s_aload_n w (hb hby dail_6) rfl rfl (pc' := 7) rfl ?_
    refine w_getF w (hw _ (List.mem_of_getElem? (i := 44) rfl)) Via.refl F (hb hby dail_7) (pc' := 10) rfl fun T w => ?_
    refine s_if_ne w (hb hby dail_10) (by decide) (pc1 := 13) rfl (pc2 := 17) rfl (fun _ => ?_) (fun q => absurd q (by decide))
    refine s_iconst w (hb hby dail_13) (v := 1) rfl (pc' := 14) rfl ?_
    refine s_goto w (hb hby dail_14) (by decide) (pc' := 18) rfl ?_
    exact w_ireturn w hEL hs hlk hret rfl (Or.inr (Or.inl rfl)) (hb hby dail_18) (by decide) (by decide) ⟨rfl, rfl⟩
  · -- zc = 0
    refine s_iconst w (hb hby dail_17) (v := 0) rfl (pc' := 18) rfl ?_
    exact absurd ct1 hz
theorem dsia_0 : decode jdk_42_method_150_code 0 = .ok (.aload_n 0, 1) := by decide +kernel
theorem dsia_1 : decode jdk_42_method_150_code 1 = .ok (.invokespecial 1, 3) := by decide +kernel
theorem dsia_4 : decode jdk_42_method_150_code 4 = .ok (.aload_n 1, 1) := by decide +kernel
theorem dsia_5 : decode jdk_42_method_150_code 5 = .ok (.invokevirtual 552, 3) := by decide +kernel
theorem dsia_8 : decode jdk_42_method_150_code 8 = .ok (.astore_n 3, 1) := by decide +kernel
theorem dsia_9 : decode jdk_42_method_150_code 9 = .ok (.aload_n 1, 1) := by decide +kernel
theorem dsia_10 : decode jdk_42_method_150_code 10 = .ok (.invokevirtual 549, 3) := by decide +kernel
theorem dsia_13 : decode jdk_42_method_150_code 13 = .ok (.istore 4, 2) := by decide +kernel
theorem dsia_15 : decode jdk_42_method_150_code 15 = .ok (.aload_n 1, 1) := by decide +kernel
theorem dsia_16 : decode jdk_42_method_150_code 16 = .ok (.invokevirtual 1047, 3) := by decide +kernel
theorem dsia_19 : decode jdk_42_method_150_code 19 = .ok (.ifCond .eq 22, 3) := by decide +kernel
theorem dsia_22 : decode jdk_42_method_150_code 22 = .ok (.aload_n 0, 1) := by decide +kernel
theorem dsia_23 : decode jdk_42_method_150_code 23 = .ok (.iconst 0, 1) := by decide +kernel
theorem dsia_24 : decode jdk_42_method_150_code 24 = .ok (.putfield 15, 3) := by decide +kernel
theorem dsia_27 : decode jdk_42_method_150_code 27 = .ok (.aload_n 0, 1) := by decide +kernel
theorem dsia_28 : decode jdk_42_method_150_code 28 = .ok (.aload_n 3, 1) := by decide +kernel
theorem dsia_29 : decode jdk_42_method_150_code 29 = .ok (.iconst 0, 1) := by decide +kernel
theorem dsia_30 : decode jdk_42_method_150_code 30 = .ok (.iload 4, 2) := by decide +kernel
theorem dsia_32 : decode jdk_42_method_150_code 32 = .ok (.invokestatic 54, 3) := by decide +kernel
theorem dsia_35 : decode jdk_42_method_150_code 35 = .ok (.putfield 9, 3) := by decide +kernel
theorem dsia_38 : decode jdk_42_method_150_code 38 = .ok (.goto 59, 3) := by decide +kernel
theorem dsia_41 : decode jdk_42_method_150_code 41 = .ok (.getstatic 38, 3) := by decide +kernel
theorem dsia_44 : decode jdk_42_method_150_code 44 = .ok (.ifCond .eq 35, 3) := by decide +kernel
theorem dsia_47 : decode jdk_42_method_150_code 47 = .ok (.aload_n 1, 1) := by decide +kernel
theorem dsia_48 : decode jdk_42_method_150_code 48 = .ok (.getfield 1048, 3) := by decide +kernel
theorem dsia_51 : decode jdk_42_method_150_code 51 = .ok (.ifCond .eq 28, 3) := by decide +kernel
theorem dsia_54 : decode jdk_42_method_150_code 54 = .ok (.aload_n 0, 1) := by decide +kernel
theorem dsia_55 : decode jdk_42_method_150_code 55 = .ok (.aload_n 3, 1) := by decide +kernel
theorem dsia_56 : decode jdk_42_method_150_code 56 = .ok (.iconst 0, 1) := by decide +kernel
theorem dsia_57 : decode jdk_42_method_150_code 57 = .ok (.iload 4, 2) := by decide +kernel
theorem dsia_59 : decode jdk_42_method_150_code 59 = .ok (.invokestatic 1051, 3) := by decide +kernel
theorem dsia_62 : decode jdk_42_method_150_code 62 = .ok (.putfield 9, 3) := by decide +kernel
theorem dsia_65 : decode jdk_42_method_150_code 65 = .ok (.aload_n 0, 1) := by decide +kernel
theorem dsia_66 : decode jdk_42_method_150_code 66 = .ok (.aload_n 0, 1) := by decide +kernel
theorem dsia_67 : decode jdk_42_method_150_code 67 = .ok (.getfield 9, 3) := by decide +kernel
theorem dsia_70 : decode jdk_42_method_150_code 70 = .ok (.iload 4, 2) := by decide +kernel
theorem dsia_72 : decode jdk_42_method_150_code 72 = .ok (.invokestatic 47, 3) := by decide +kernel
theorem dsia_75 : decode jdk_42_method_150_code 75 = .ok (.putfield 15, 3) := by decide +kernel
theorem dsia_78 : decode jdk_42_method_150_code 78 = .ok (.return_, 1) := by decide +kernel
theorem dsia_79 : decode jdk_42_method_150_code 79 = .ok (.aload_n 0, 1) := by decide +kernel
theorem dsia_80 : decode jdk_42_method_150_code 80 = .ok (.iconst 1, 1) := by decide +kernel
theorem dsia_81 : decode jdk_42_method_150_code 81 = .ok (.putfield 15, 3) := by decide +kernel
theorem dsia_84 : decode jdk_42_method_150_code 84 = .ok (.aload_n 0, 1) := by decide +kernel
theorem dsia_85 : decode jdk_42_method_150_code 85 = .ok (.aload_n 3, 1) := by decide +kernel
theorem dsia_86 : decode jdk_42_method_150_code 86 = .ok (.iconst 0, 1) := by decide +kernel
theorem dsia_87 : decode jdk_42_method_150_code 87 = .ok (.iload 4, 2) := by decide +kernel
theorem dsia_89 : decode jdk_42_method_150_code 89 = .ok (.iconst 1, 1) := by decide +kernel
theorem dsia_90 : decode jdk_42_method_150_code 90 = .ok (.ishl, 1) := by decide +kernel
theorem dsia_91 : decode jdk_42_method_150_code 91 = .ok (.invokestatic 54, 3) := by decide +kernel
theorem dsia_94 : decode jdk_42_method_150_code 94 = .ok (.putfield 9, 3) := by decide +kernel
theorem dsia_97 : decode jdk_42_method_150_code 97 = .ok (.return_, 1) := by decide +kernel
theorem ef_sia (m : MethodId) (x : Addr) (b : Addr) : entryFrame m #[.ref x, .ref b, .null] 5 = mkF m 0 #[.val (.ref x), .val (.ref b), .val (.null), .unset, .unset] [] := by first | (simp [entryFrame, mkF, argsToLocals, Value.category]; done) | rfl
set_option maxRecDepth 65536 in
set_option maxHeartbeats 40000000 in
theorem rm_sia {l : Launch} {Z : State} {a0 : Array Value} {zc : Int32} {fm : Value} (G : Gl Z a0 zc fm) (h : Heap) (x : Addr) (b : Addr) (t : Addr) (kt : ClassId) (cap : Nat) (cs : List Int32) (v0 v1 : Value) (B0 : Sb Z h b t kt cap cs) (hlat : ∀ c ∈ cs, Lat c) (hlt : cs.length < cap) (hnB : cs.length ≤ 16) (E0 : Exa Z h x ST) (F_v : Fld Z h x ST "value" "[B" v0) (F_c : Fld Z h x ST "coder" "B" v1) :
    Met l Z consts_1 (⟨"java/lang/String", "<init>", "(Ljava/lang/AbstractStringBuilder;Ljava/lang/Void;)V"⟩ : MethodName) jdk_42_method_150_code 5 none ({ frames := 3, cells := 1, slots := 16, locals := 71 } : Room) #[.ref x, .ref b, .null] h [x] [x] (fun v h' => v = none ∧ ∃ u ku, SL Z h' x u ku cs) := by
  have G0 := G
  obtain ⟨hw, hEL, SC, hz, SF, hfm⟩ := G
  have hw1 : ∀ d ∈ StrChars.Road.words, d.before a0 Z = true := fun d q => hw d (sub1 d q)
  have hwA : ∀ d ∈ Bundle.stringAtoms, d.before a0 Z = true := fun d q => hw d (subA d q)
  have hw2 : ∀ d ∈ wordsS, d.before a0 Z = true := fun d q => hw d (sub2 d q)
  refine Met.of (plainFor_of_name pn_0) ?_
  intro p e s m below meth c T hnm hret hlk hby hml hs w
  have hZ0 := w.old
  refine Run.cast (ef_sia m x b) ?_
  have B1 := B0
  obtain ⟨Eb, Vb, Cb, Nb, At, hcap, hcap2⟩ := B0
  refine s_aload_n w (hb hby dsia_0) rfl rfl (pc' := 1) rfl ?_
  refine w_objInit w (hw _ (List.mem_of_getElem? (i := 11) rfl)) (hw _ (List.mem_of_getElem? (i := 12) rfl)) (hw _ (List.mem_of_getElem? (i := 13) rfl)) (hb hby dsia_1) (by rw [hml]; rfl) (by decide) (W := 0) (Nat.le_of_eq rfl) (by decide) (pc' := 4) rfl fun T w => ?_
  refine s_aload_n w (hb hby dsia_4) rfl rfl (pc' := 5) rfl ?_
  refine w_virtualK w hEL (y := (⟨"java/lang/AbstractStringBuilder", "getValue", "()[B"⟩ : MethodName)) (y' := (⟨"java/lang/AbstractStringBuilder", "getValue", "()[B"⟩ : MethodName)) (C := "java/lang/StringBuilder") (a := b) (hw _ (List.mem_of_getElem? (i := 107) rfl)) (hw _ (List.mem_of_getElem? (i := 108) rfl)) (hw _ (List.mem_of_getElem? (i := 110) rfl)) rfl (hw _ (List.mem_of_getElem? (i := 110) rfl)) (hw _ (List.mem_of_getElem? (i := 109) rfl)) (hw _ (List.mem_of_getElem? (i := 38) rfl)) (hw _ (List.mem_of_getElem? (i := 111) rfl)) (by decide) Eb (rm_gv G0 h b t Vb) all0 all0 (argsL := []) (rest := []) (lenOf (by decide +kernel : parseMethodDescriptor "()[B" = some ⟨[], (some (.array .byte))⟩) rfl) rfl rfl (hb hby dsia_5) (by rw [hml]; rfl) (W := 0) (Nat.le_of_eq rfl) (by decide) (by decide) (by decide) (by decide) (pc' := 8) rfl fun u1 N2 T h3 w K4 P5 => ?_
  obtain ⟨rfl, P6⟩ := P5
  obtain ⟨rfl, rfl⟩ := P6
  show Run p e below _ T (mkF m 8 #[.val (.ref x), .val (.ref b), .val (.null), .unset, .unset] [.ref t])
  refine s_astore_n w #[.val (.ref x), .val (.ref b), .val (.null), .val (.ref t), .unset] (hb hby dsia_8) rfl rfl (pc' := 9) rfl ?_
  refine s_aload_n w (hb hby dsia_9) rfl rfl (pc' := 10) rfl ?_
  refine w_virtualK w hEL (y := (⟨"java/lang/AbstractStringBuilder", "length", "()I"⟩ : MethodName)) (y' := (⟨"java/lang/StringBuilder", "length", "()I"⟩ : MethodName)) (C := "java/lang/StringBuilder") (a := b) (hw _ (List.mem_of_getElem? (i := 112) rfl)) (hw _ (List.mem_of_getElem? (i := 113) rfl)) (hw _ (List.mem_of_getElem? (i := 110) rfl)) rfl (hw _ (List.mem_of_getElem? (i := 115) rfl)) (hw _ (List.mem_of_getElem? (i := 116) rfl)) (hw _ (List.mem_of_getElem? (i := 30) rfl)) (hw _ (List.mem_of_getElem? (i := 117) rfl)) (by decide) Eb (rm_sln G0 h b _ Eb Nb) all0 all0 (argsL := []) (rest := []) (lenOf (by decide +kernel : parseMethodDescriptor "()I" = some ⟨[], (some .int)⟩) rfl) rfl rfl (hb hby dsia_10) (by rw [hml]; rfl) (W := 0) (Nat.le_of_eq rfl) (by decide) (by decide) (by decide) (by decide) (pc' := 13) rfl fun u7 N8 T h9 w K10 P11 => ?_
  obtain ⟨rfl, P12⟩ := P11
  obtain ⟨rfl, rfl⟩ := P12
  show Run p e below _ T (mkF m 13 #[.val (.ref x), .val (.ref b), .val (.null), .val (.ref t), .unset] [.int (Int32.ofNat cs.length)])
  refine s_istore w #[.val (.ref x), .val (.ref b), .val (.null), .val (.ref t), .val (.int (Int32.ofNat cs.length))] (hb hby dsia_13) rfl (pc' := 15) rfl ?_
  refine s_aload_n w (hb hby dsia_15) rfl rfl (pc' := 16) rfl ?_
  refine w_virtualK w hEL (y := (⟨"java/lang/AbstractStringBuilder", "isLatin1", "()Z"⟩ : MethodName)) (y' := (⟨"java/lang/AbstractStringBuilder", "isLatin1", "()Z"⟩ : MethodName)) (C := "java/lang/StringBuilder") (a := b) (hw _ (List.mem_of_getElem? (i := 120) rfl)) (hw _ (List.mem_of_getElem? (i := 121) rfl)) (hw _ (List.mem_of_getElem? (i := 110) rfl)) rfl (hw _ (List.mem_of_getElem? (i := 123) rfl)) (hw _ (List.mem_of_getElem? (i := 122) rfl)) (hw _ (List.mem_of_getElem? (i := 38) rfl)) (hw _ (List.mem_of_getElem? (i := 124) rfl)) (by decide) Eb (rm_ail G0 h b Cb) all0 all0 (argsL := []) (rest := []) (lenOf (by decide +kernel : parseMethodDescriptor "()Z" = some ⟨[], (some .boolean)⟩) rfl) rfl rfl (hb hby dsia_16) (by rw [hml]; rfl) (W := 0) (Nat.le_of_eq rfl) (by decide) (by decide) (by decide) (by decide) (pc' := 19) rfl fun u13 N14 T h15 w K16 P17 => ?_
  obtain ⟨rfl, P18⟩ := P17
  obtain ⟨rfl, rfl⟩ := P18
  show Run p e below _ T (mkF m 19 #[.val (.ref x), .val (.ref b), .val (.null), .val (.ref t), .val (.int (Int32.ofNat cs.length))] [.int 1])
  refine s_if_eq w (hb hby dsia_19) (by decide) (pc1 := 22) rfl (pc2 := 41) rfl (fun _ => ?_) (fun q => absurd q (by decide))
  refine s_aload_n w (hb hby dsia_22) rfl rfl (pc' := 23) rfl ?_
  refine s_iconst w (hb hby dsia_23) (v := 0) rfl (pc' := 24) rfl ?_
  have sn : Jvm.RoadKit.slotOf Z "java/lang/String" "value" "[B" ≠ Jvm.RoadKit.slotOf Z "java/lang/String" "coder" "B" := slot_ne (Or.inr (hw _ (List.mem_of_getElem? (i := 16) rfl))) (Or.inr (hw _ (List.mem_of_getElem? (i := 17) rfl))) (by decide) (t := .array .byte) (t' := .byte) (by decide) (by decide)
  refine w_putF w (hw _ (List.mem_of_getElem? (i := 21) rfl)) Via.refl F_c E0 (Or.inr ⟨(hw _ (List.mem_of_getElem? (i := 17) rfl)), rfl, hnm⟩) (hw _ (List.mem_of_getElem? (i := 2) rfl)) (ty := .byte) (by decide) rfl rfl (hb hby dsia_24) (Or.inl (List.mem_singleton.mpr rfl)) (Or.inr (List.mem_singleton.mpr rfl)) (pc' := 27) rfl fun T g1 w W1 F1 X1 => ?_
  have At1 := At.other W1 (Exa.neArv E0 At (hw _ (List.mem_of_getElem? (i := 2) rfl))).symm
  refine s_aload_n w (hb hby dsia_27) rfl rfl (pc' := 28) rfl ?_
  refine s_aload_n w (hb hby dsia_28) rfl rfl (pc' := 29) rfl ?_
  refine s_iconst w (hb hby dsia_29) (v := 0) rfl (pc' := 30) rfl ?_
  refine s_iload w (hb hby dsia_30) rfl (pc' := 32) rfl ?_
  refine w_staticN w hEL (y := (⟨"java/util/Arrays", "copyOfRange", "([BII)[B"⟩ : MethodName)) (hw _ (List.mem_of_getElem? (i := 125) rfl)) (hw _ (List.mem_of_getElem? (i := 126) rfl)) (hw _ (List.mem_of_getElem? (i := 127) rfl)) (hw _ (List.mem_of_getElem? (i := 128) rfl)) (by decide) (rm_cor G0 g1 t _ cs.length cap kt _ rfl hlt (by omega) hnB At1 (room_len hcap)) all0 all0 (argsL := [.ref t, .int 0, .int (Int32.ofNat cs.length)]) (rest := [.ref x]) (lenOf (by decide +kernel : parseMethodDescriptor "([BII)[B" = some ⟨[(.array .byte), .int, .int], (some (.array .byte))⟩) rfl) rfl rfl (hb hby dsia_32) (by rw [hml]; rfl) (W := 1) (Nat.le_of_eq rfl) (by decide) (by decide) (by decide) (by decide) (pc' := 35) rfl fun u20 N21 T h22 w K23 P24 => ?_
  obtain ⟨rfl, P25⟩ := P24
  obtain ⟨u, ku, rfl, P8, P9⟩ := P25
  rw [room_take] at P9
  have E2 := Keep.ext0 K23
  show Run p e below _ T (mkF m 35 #[.val (.ref x), .val (.ref b), .val (.null), .val (.ref t), .val (.int (Int32.ofNat cs.length))] [.ref u, .ref x])
  refine w_putF w (hw _ (List.mem_of_getElem? (i := 20) rfl)) Via.refl ((F_v.other W1 (Or.inr sn)).ext E2) (X1.ext E2) (Or.inr ⟨(hw _ (List.mem_of_getElem? (i := 16) rfl)), rfl, hnm⟩) (hw _ (List.mem_of_getElem? (i := 2) rfl)) (ty := (.array .byte)) (by decide) rfl rfl (hb hby dsia_35) (Or.inl (List.mem_singleton.mpr rfl)) (Or.inr (List.mem_singleton.mpr rfl)) (pc' := 38) rfl fun T g2 w W2 F2 X2 => ?_
  refine s_goto w (hb hby dsia_38) (by decide) (pc' := 97) rfl ?_
  have nu : u ≠ x := fun z => by obtain ⟨cl, k0, A, -⟩ := X1; have := (Array.getElem?_eq_some_iff.mp A).1; rw [← z] at this; exact absurd P8 (Nat.not_le.mpr this)
  exact w_return w hEL hs hlk hret (hb hby dsia_97) (by decide) (by decide) ⟨rfl, u, ku, X2, F2, (F1.ext E2).other W2 (Or.inr sn.symm), P9.other W2 nu, hlat, by omega⟩
theorem dsib_0 : decode jdk_42_method_53_code 0 = .ok (.aload_n 0, 1) := by decide +kernel
theorem dsib_1 : decode jdk_42_method_53_code 1 = .ok (.aload_n 1, 1) := by decide +kernel
theorem dsib_2 : decode jdk_42_method_53_code 2 = .ok (.aconst_null, 1) := by decide +kernel
theorem dsib_3 : decode jdk_42_method_53_code 3 = .ok (.invokespecial 489, 3) := by decide +kernel
theorem dsib_6 : decode jdk_42_method_53_code 6 = .ok (.return_, 1) := by decide +kernel
theorem ef_sib (m : MethodId) (x : Addr) (b : Addr) : entryFrame m #[.ref x, .ref b] 2 = mkF m 0 #[.val (.ref x), .val (.ref b)] [] := by first | (simp [entryFrame, mkF, argsToLocals, Value.category]; done) | rfl
set_option maxRecDepth 65536 in
set_option maxHeartbeats 40000000 in
theorem rm_sib {l : Launch} {Z : State} {a0 : Array Value} {zc : Int32} {fm : Value} (G : Gl Z a0 zc fm) (h : Heap) (x : Addr) (b : Addr) (t : Addr) (kt : ClassId) (cap : Nat) (cs : List Int32) (v0 v1 : Value) (B0 : Sb Z h b t kt cap cs) (hlat : ∀ c ∈ cs, Lat c) (hlt : cs.length < cap) (hnB : cs.length ≤ 16) (E0 : Exa Z h x ST) (F_v : Fld Z h x ST "value" "[B" v0) (F_c : Fld Z h x ST "coder" "B" v1) :
    Met l Z consts_1 (⟨"java/lang/String", "<init>", "(Ljava/lang/StringBuilder;)V"⟩ : MethodName) jdk_42_method_53_code 2 none ({ frames := 4, cells := 1, slots := 16, locals := 87 } : Room) #[.ref x, .ref b] h [x] [x] (fun v h' => v = none ∧ ∃ u ku, SL Z h' x u ku cs) := by
  have G0 := G
  obtain ⟨hw, hEL, SC, hz, SF, hfm⟩ := G
  have hw1 : ∀ d ∈ StrChars.Road.words, d.before a0 Z = true := fun d q => hw d (sub1 d q)
  have hwA : ∀ d ∈ Bundle.stringAtoms, d.before a0 Z = true := fun d q => hw d (subA d q)
  have hw2 : ∀ d ∈ wordsS, d.before a0 Z = true := fun d q => hw d (sub2 d q)
  refine Met.of (plainFor_of_name pn_0) ?_
  intro p e s m below meth c T hnm hret hlk hby hml hs w
  have hZ0 := w.old
  refine Run.cast (ef_sib m x b) ?_
  refine s_aload_n w (hb hby dsib_0) rfl rfl (pc' := 1) rfl ?_
  refine s_aload_n w (hb hby dsib_1) rfl rfl (pc' := 2) rfl ?_
  refine s_anull w (hb hby dsib_2) (pc' := 3) rfl ?_
  refine w_specialN w hEL (y := (⟨"java/lang/String", "<init>", "(Ljava/lang/AbstractStringBuilder;Ljava/lang/Void;)V"⟩ : MethodName)) (a := x) rfl (hw _ (List.mem_of_getElem? (i := 104) rfl)) (hw _ (List.mem_of_getElem? (i := 105) rfl)) (hw _ (List.mem_of_getElem? (i := 3) rfl)) (hw _ (List.mem_of_getElem? (i := 106) rfl)) (by decide) (rm_sia G0 h x b t kt cap cs v0 v1 B0 hlat hlt hnB E0 F_v F_c) (allS (List.mem_of_getElem? (i := 0) rfl) all0) (allS (Or.inl (List.mem_of_getElem? (i := 0) rfl)) all0) (argsL := [.ref b, .null]) (rest := []) (lenOf (by decide +kernel : parseMethodDescriptor "(Ljava/lang/AbstractStringBuilder;Ljava/lang/Void;)V" = some ⟨[(.object "java/lang/AbstractStringBuilder"), (.object "java/lang/Void")], none⟩) rfl) rfl rfl (hb hby dsib_3) (by rw [hml]; rfl) (W := 0) (Nat.le_of_eq rfl) (by decide) (by decide) (by decide) (by decide) (pc' := 6) rfl fun u1 N2 T h3 w K4 P5 => ?_
  obtain ⟨rfl, P6⟩ := P5
  obtain ⟨rfl, P9⟩ := P6
  show Run p e below _ T (mkF m 6 #[.val (.ref x), .val (.ref b)] [])
  exact w_return w hEL hs hlk hret (hb hby dsib_6) (by decide) (by decide) ⟨rfl, P9⟩
theorem dtos_0 : decode jdk_67_method_42_code 0 = .ok (.new 18, 3) := by decide +kernel
theorem dtos_3 : decode jdk_67_method_42_code 3 = .ok (.dup, 1) := by decide +kernel
theorem dtos_4 : decode jdk_67_method_42_code 4 = .ok (.aload_n 0, 1) := by decide +kernel
theorem dtos_5 : decode jdk_67_method_42_code 5 = .ok (.invokespecial 137, 3) := by decide +kernel
theorem dtos_8 : decode jdk_67_method_42_code 8 = .ok (.areturn, 1) := by decide +kernel
theorem ef_tos (m : MethodId) (b : Addr) : entryFrame m #[.ref b] 1 = mkF m 0 #[.val (.ref b)] [] := by first | (simp [entryFrame, mkF, argsToLocals, Value.category]; done) | rfl
set_option maxRecDepth 65536 in
set_option maxHeartbeats 40000000 in
theorem rm_tos {l : Launch} {Z : State} {a0 : Array Value} {zc : Int32} {fm : Value} (G : Gl Z a0 zc fm) (h : Heap) (b : Addr) (t : Addr) (kt : ClassId) (cap : Nat) (cs : List Int32) (B0 : Sb Z h b t kt cap cs) (hlat : ∀ c ∈ cs, Lat c) (hlt : cs.length < cap) (hnB : cs.length ≤ 16) :
    Met l Z consts_1 (⟨"java/lang/StringBuilder", "toString", "()Ljava/lang/String;"⟩ : MethodName) jdk_67_method_42_code 1 (some (.object "java/lang/String")) ({ frames := 5, cells := 2, slots := 20, locals := 101 } : Room) #[.ref b] h [] [] (fun v h' => ∃ x u ku, v = some (.ref x) ∧ SL Z h' x u ku cs) := by
  have G0 := G
  obtain ⟨hw, hEL, SC, hz, SF, hfm⟩ := G
  have hw1 : ∀ d ∈ StrChars.Road.words, d.before a0 Z = true := fun d q => hw d (sub1 d q)
  have hwA : ∀ d ∈ Bundle.stringAtoms, d.before a0 Z = true := fun d q => hw d (subA d q)
  have hw2 : ∀ d ∈ wordsS, d.before a0 Z = true := fun d q => hw d (sub2 d q)
  refine Met.of (plainFor_of_name pn_2) ?_
  intro p e s m below meth c T hnm hret hlk hby hml hs w
  have hZ0 := w.old
  refine Run.cast (ef_tos m b) ?_
  refine w_new w (hw _ (List.mem_of_getElem? (i := 100) rfl)) (hw _ (List.mem_of_getElem? (i := 2) rfl)) (hw _ (List.mem_of_getElem? (i := 3) rfl)) (hb hby dtos_0) (pc' := 3) rfl (by decide) (by decide) fun T h1 x2 w E3 q4 r5 A6 D7 => ?_
  have F_value_x2 : Fld Z h1 x2 "java/lang/String" "value" "[B" (.null) := D7 (Or.inr (hw _ (List.mem_of_getElem? (i := 16) rfl))) (ty := (.array .byte)) (by decide)
  have F_coder_x2 : Fld Z h1 x2 "java/lang/String" "coder" "B" (.int 0) := D7 (Or.inr (hw _ (List.mem_of_getElem? (i := 17) rfl))) (ty := .byte) (by decide)
  refine s_dup w (hb hby dtos_3) rfl (pc' := 4) rfl ?_
  refine s_aload_n w (hb hby dtos_4) rfl rfl (pc' := 5) rfl ?_
  refine w_specialN w hEL (y := (⟨"java/lang/String", "<init>", "(Ljava/lang/StringBuilder;)V"⟩ : MethodName)) (a := x2) rfl (hw _ (List.mem_of_getElem? (i := 101) rfl)) (hw _ (List.mem_of_getElem? (i := 102) rfl)) (hw _ (List.mem_of_getElem? (i := 3) rfl)) (hw _ (List.mem_of_getElem? (i := 103) rfl)) (by decide) (rm_sib G0 h1 x2 b t kt cap cs _ _ (B0.ext E3) hlat hlt hnB A6 F_value_x2 F_coder_x2) (allS (List.mem_of_getElem? (i := 0) rfl) all0) (allS (Or.inr r5) all0) (argsL := [.ref b]) (rest := [.ref x2]) (lenOf (by decide +kernel : parseMethodDescriptor "(Ljava/lang/StringBuilder;)V" = some ⟨[(.object "java/lang/StringBuilder")], none⟩) rfl) rfl rfl (hb hby dtos_5) (by rw [hml]; rfl) (W := 1) (Nat.le_of_eq rfl) (by decide) (by decide) (by decide) (by decide) (pc' := 8) rfl fun u8 N9 T h10 w K11 P12 => ?_
  obtain ⟨rfl, P13⟩ := P12
  obtain ⟨rfl, u, ku, P9⟩ := P13
  show Run p e below _ T (mkF m 8 #[.val (.ref b)] [.ref x2])
  exact w_areturn w hEL hs hlk hret rfl rfl (hb hby dtos_8) (by decide) (by decide) ⟨x2, u, ku, rfl, P9⟩
theorem codOfL {cs : List Int32} (h : ∀ c ∈ cs, Lat c) : CodA cs 0 (Int32.ofNat cs.length) (cs.map fun c => Value.int (lo8 c)) := Or.inl ⟨rfl, rfl, rfl, fun c q => (h c q).2⟩
theorem Str.keepO {Z : State} {a0 : Array Value} {h h' : Heap} {x y : Addr} {cs : List Int32} {C : String} {n : Nat} (F : Str Z h y cs) (K : Keep h h' [x]) (E : Exa Z h x C) (hC : C ≠ "java/lang/String") (wi : (Jvm.Cond.instantiable C n).before a0 Z = true) : Str Z h' y cs := by
  obtain ⟨a, t, kb, cd, N2, vs, q1, q2, q3, q4⟩ := F
  have n1 : y ∉ [x] := ninS (ne_exa E a hC).symm nin0
  have n2 : t ∉ [x] := ninS (Exa.neArv E q3 wi).symm nin0
  exact ⟨a.keep K, t, kb, cd, N2, vs, q1.keep K n1, q2.keep K n1, q3.keep K n2, q4⟩
theorem subC : ∀ d ∈ StrChars.Road.wordsChN, d ∈ tables_1 := by decide +kernel
theorem dpdi_0 : decode prog_19_method_1_code 0 = .ok (.aload_n 0, 1) := by decide +kernel
theorem dpdi_1 : decode prog_19_method_1_code 1 = .ok (.invokespecial 1, 3) := by decide +kernel
theorem dpdi_4 : decode prog_19_method_1_code 4 = .ok (.aload_n 0, 1) := by decide +kernel
theorem dpdi_5 : decode prog_19_method_1_code 5 = .ok (.aload_n 1, 1) := by decide +kernel
theorem dpdi_6 : decode prog_19_method_1_code 6 = .ok (.putfield 7, 3) := by decide +kernel
theorem dpdi_9 : decode prog_19_method_1_code 9 = .ok (.return_, 1) := by decide +kernel
theorem pn_4 : plainName "com/example/minder/minder/http/PdpIdentifier" = true := by first | (simp [plainName, overriddenIn]; done) | decide +kernel
theorem ef_pdi (m : MethodId) (a : Addr) (y : Addr) : entryFrame m #[.ref a, .ref y] 2 = mkF m 0 #[.val (.ref a), .val (.ref y)] [] := by first | (simp [entryFrame, mkF, argsToLocals, Value.category]; done) | rfl
set_option maxRecDepth 65536 in
set_option maxHeartbeats 40000000 in
theorem rm_pdi {l : Launch} {Z : State} {a0 : Array Value} {zc : Int32} {fm : Value} (G : Gl Z a0 zc fm) (h : Heap) (a : Addr) (y : Addr) (v0 : Value) (E0 : Exa Z h a PDP) (F : Fld Z h a PDP "url" SD v0) :
    Met l Z consts_1 (⟨"com/example/minder/minder/http/PdpIdentifier", "<init>", "(Ljava/lang/String;)V"⟩ : MethodName) prog_19_method_1_code 2 none ({ frames := 1, cells := 0, slots := 0, locals := 12 } : Room) #[.ref a, .ref y] h [] [a] (fun v h' => v = none ∧ Exa Z h' a PDP ∧ Fld Z h' a PDP "url" SD (.ref y)) := by
  have G0 := G
  obtain ⟨hw, hEL, SC, hz, SF, hfm⟩ := G
  have hw1 : ∀ d ∈ StrChars.Road.words, d.before a0 Z = true := fun d q => hw d (sub1 d q)
  have hwA : ∀ d ∈ Bundle.stringAtoms, d.before a0 Z = true := fun d q => hw d (subA d q)
  have hw2 : ∀ d ∈ wordsS, d.before a0 Z = true := fun d q => hw d (sub2 d q)
  refine Met.of (plainFor_of_name pn_4) ?_
  intro p e s m below meth c T hnm hret hlk hby hml hs w
  have hZ0 := w.old
  refine Run.cast (ef_pdi m a y) ?_
  refine s_aload_n w (hb hby dpdi_0) rfl rfl (pc' := 1) rfl ?_
  refine w_objInit w (hw _ (List.mem_of_getElem? (i := 143) rfl)) (hw _ (List.mem_of_getElem? (i := 12) rfl)) (hw _ (List.mem_of_getElem? (i := 13) rfl)) (hb hby dpdi_1) (by rw [hml]; rfl) (by decide) (W := 0) (Nat.le_of_eq rfl) (by decide) (pc' := 4) rfl fun T w => ?_
  refine s_aload_n w (hb hby dpdi_4) rfl rfl (pc' := 5) rfl ?_
  refine s_aload_n w (hb hby dpdi_5) rfl rfl (pc' := 6) rfl ?_
  refine w_putF w (hw _ (List.mem_of_getElem? (i := 144) rfl)) Via.refl F E0 (Or.inr ⟨(hw _ (List.mem_of_getElem? (i := 145) rfl)), rfl, hnm⟩) (hw _ (List.mem_of_getElem? (i := 27) rfl)) (ty := (.object "java/lang/String")) (by decide) rfl rfl (hb hby dpdi_6) (Or.inl (List.mem_singleton.mpr rfl)) (Or.inl ⟨by decide, by decide⟩) (pc' := 9) rfl fun T g1 w W1 F1 X1 => ?_
  exact w_return w hEL hs hlk hret (hb hby dpdi_9) (by decide) (by decide) ⟨rfl, X1, F1⟩
theorem dpdt_0 : decode prog_19_method_4_code 0 = .ok (.aload_n 0, 1) := by decide +kernel
theorem dpdt_1 : decode prog_19_method_4_code 1 = .ok (.getfield 7, 3) := by decide +kernel
theorem dpdt_4 : decode prog_19_method_4_code 4 = .ok (.areturn, 1) := by decide +kernel
theorem ef_pdt (m : MethodId) (a : Addr) : entryFrame m #[.ref a] 1 = mkF m 0 #[.val (.ref a)] [] := by first | (simp [entryFrame, mkF, argsToLocals, Value.category]; done) | rfl
set_option maxRecDepth 65536 in
set_option maxHeartbeats 40000000 in
theorem rm_pdt {l : Launch} {Z : State} {a0 : Array Value} {zc : Int32} {fm : Value} (G : Gl Z a0 zc fm) (h : Heap) (a : Addr) (y : Addr) (F : Fld Z h a PDP "url" SD (.ref y)) :
    Met l Z consts_1 (⟨"com/example/minder/minder/http/PdpIdentifier", "toString", "()Ljava/lang/String;"⟩ : MethodName) prog_19_method_4_code 1 (some (.object "java/lang/String")) ({ frames := 0, cells := 0, slots := 0, locals := 0 } : Room) #[.ref a] h [] [] (fun v h' => v = some (.ref y) ∧ h = h') := by
  have G0 := G
  obtain ⟨hw, hEL, SC, hz, SF, hfm⟩ := G
  have hw1 : ∀ d ∈ StrChars.Road.words, d.before a0 Z = true := fun d q => hw d (sub1 d q)
  have hwA : ∀ d ∈ Bundle.stringAtoms, d.before a0 Z = true := fun d q => hw d (subA d q)
  have hw2 : ∀ d ∈ wordsS, d.before a0 Z = true := fun d q => hw d (sub2 d q)
  refine Met.of (plainFor_of_name pn_4) ?_
  intro p e s m below meth c T hnm hret hlk hby hml hs w
  have hZ0 := w.old
  refine Run.cast (ef_pdt m a) ?_
  refine s_aload_n w (hb hby dpdt_0) rfl rfl (pc' := 1) rfl ?_
  refine w_getF w (hw _ (List.mem_of_getElem? (i := 144) rfl)) Via.refl F (hb hby dpdt_1) (pc' := 4) rfl fun T w => ?_
  exact w_areturn w hEL hs hlk hret rfl rfl (hb hby dpdt_4) (by decide) (by decide) ⟨rfl, rfl⟩
theorem latH : ∀ c ∈ ([104, 116, 116, 112, 115, 58, 47, 47] : List Int32), Lat c := by
  intro c q
  simp only [List.mem_cons, List.not_mem_nil, or_false] at q
  rcases q with rfl | rfl | rfl | rfl | rfl | rfl | rfl | rfl <;> (unfold Lat; decide)
theorem dofh_0 : decode prog_19_method_3_code 0 = .ok (.new 8, 3) := by decide +kernel
theorem dofh_3 : decode prog_19_method_3_code 3 = .ok (.dup, 1) := by decide +kernel
theorem dofh_4 : decode prog_19_method_3_code 4 = .ok (.new 22, 3) := by decide +kernel
theorem dofh_7 : decode prog_19_method_3_code 7 = .ok (.dup, 1) := by decide +kernel
theorem dofh_8 : decode prog_19_method_3_code 8 = .ok (.invokespecial 24, 3) := by decide +kernel
theorem dofh_11 : decode prog_19_method_3_code 11 = .ok (.ldc 104, 2) := by decide +kernel
theorem dofh_13 : decode prog_19_method_3_code 13 = .ok (.invokevirtual 27, 3) := by decide +kernel
theorem dofh_16 : decode prog_19_method_3_code 16 = .ok (.aload_n 0, 1) := by decide +kernel
theorem dofh_17 : decode prog_19_method_3_code 17 = .ok (.invokevirtual 27, 3) := by decide +kernel
theorem dofh_20 : decode prog_19_method_3_code 20 = .ok (.invokevirtual 35, 3) := by decide +kernel
theorem dofh_23 : decode prog_19_method_3_code 23 = .ok (.invokespecial 106, 3) := by decide +kernel
theorem dofh_26 : decode prog_19_method_3_code 26 = .ok (.areturn, 1) := by decide +kernel
theorem ef_ofh (m : MethodId) (x : Addr) : entryFrame m #[.ref x] 1 = mkF m 0 #[.val (.ref x)] [] := by first | (simp [entryFrame, mkF, argsToLocals, Value.category]; done) | rfl
set_option maxRecDepth 65536 in
set_option maxHeartbeats 40000000 in
theorem rm_ofh {l : Launch} {Z : State} {a0 : Array Value} {zc : Int32} {fm : Value} (G : Gl Z a0 zc fm) (h : Heap) (x : Addr) (ds : List Int32) (Sx : Str Z h x ds) (hlat : ∀ c ∈ ds, Lat c) (h3 : ds.length ≤ 3) :
    Met l Z consts_1 (⟨"com/example/minder/minder/http/PdpIdentifier", "ofHost", "(Ljava/lang/String;)Lcom/example/minder/minder/http/PdpIdentifier;"⟩ : MethodName) prog_19_method_3_code 1 (some (.object "com/example/minder/minder/http/PdpIdentifier")) ({ frames := 6, cells := 7, slots := 77, locals := 115 } : Room) #[.ref x] h [] [] (fun v h' => ∃ p y, v = some (.ref p) ∧ Exa Z h' p PDP ∧ Fld Z h' p PDP "url" SD (.ref y) ∧ Str Z h' y ([104, 116, 116, 112, 115, 58, 47, 47] ++ ds)) := by
  have G0 := G
  obtain ⟨hw, hEL, SC, hz, SF, hfm⟩ := G
  have hw1 : ∀ d ∈ StrChars.Road.words, d.before a0 Z = true := fun d q => hw d (sub1 d q)
  have hwA : ∀ d ∈ Bundle.stringAtoms, d.before a0 Z = true := fun d q => hw d (subA d q)
  have hw2 : ∀ d ∈ wordsS, d.before a0 Z = true := fun d q => hw d (sub2 d q)
  refine Met.of (plainFor_of_name pn_4) ?_
  intro p e s m below meth c T hnm hret hlk hby hml hs w
  have hZ0 := w.old
  refine Run.cast (ef_ofh m x) ?_
  refine w_new w (hw _ (List.mem_of_getElem? (i := 26) rfl)) (hw _ (List.mem_of_getElem? (i := 27) rfl)) (hw _ (List.mem_of_getElem? (i := 24) rfl)) (hb hby dofh_0) (pc' := 3) rfl (by decide) (by decide) fun T h1 x2 w E3 q4 r5 A6 D7 => ?_
  have F_url_x2 : Fld Z h1 x2 "com/example/minder/minder/http/PdpIdentifier" "url" "Ljava/lang/String;" (.null) := D7 (Or.inr (hw _ (List.mem_of_getElem? (i := 145) rfl))) (ty := (.object "java/lang/String")) (by decide)
  refine s_dup w (hb hby dofh_3) rfl (pc' := 4) rfl ?_
  refine w_new w (hw _ (List.mem_of_getElem? (i := 28) rfl)) (hw _ (List.mem_of_getElem? (i := 29) rfl)) (hw _ (List.mem_of_getElem? (i := 30) rfl)) (hb hby dofh_4) (pc' := 7) rfl (by decide) (by decide) fun T h8 x9 w E10 q11 r12 A13 D14 => ?_
  have F_value_x9 : Fld Z h8 x9 "java/lang/AbstractStringBuilder" "value" "[B" (.null) := D14 (Or.inl (hw _ (List.mem_of_getElem? (i := 43) rfl))) (ty := (.array .byte)) (by decide)
  have F_coder_x9 : Fld Z h8 x9 "java/lang/AbstractStringBuilder" "coder" "B" (.int 0) := D14 (Or.inl (hw _ (List.mem_of_getElem? (i := 45) rfl))) (ty := .byte) (by decide)
  have F_count_x9 : Fld Z h8 x9 "java/lang/AbstractStringBuilder" "count" "I" (.int 0) := D14 (Or.inl (hw _ (List.mem_of_getElem? (i := 69) rfl))) (ty := .int) (by decide)
  refine s_dup w (hb hby dofh_7) rfl (pc' := 8) rfl ?_
  refine w_specialN w hEL (y := (⟨"java/lang/StringBuilder", "<init>", "()V"⟩ : MethodName)) (a := x9) rfl (hw _ (List.mem_of_getElem? (i := 31) rfl)) (hw _ (List.mem_of_getElem? (i := 32) rfl)) (hw _ (List.mem_of_getElem? (i := 30) rfl)) (hw _ (List.mem_of_getElem? (i := 33) rfl)) (by decide) (rm_sbi G0 h8 x9 _ _ A13 F_value_x9 F_coder_x9 F_count_x9) all0 (allS (Or.inr r12) all0) (argsL := []) (rest := [.ref x9, .ref x2, .ref x2]) (lenOf (by decide +kernel : parseMethodDescriptor "()V" = some ⟨[], none⟩) rfl) rfl rfl (hb hby dofh_8) (by rw [hml]; rfl) (W := 3) (Nat.le_of_eq rfl) (by decide) (by decide) (by decide) (by decide) (pc' := 11) rfl fun u15 N16 T h17 w K18 P19 => ?_
  obtain ⟨rfl, t20, kt21, rfl, q22, B23⟩ := P19
  have q24 := Nat.le_trans E10.1 q22
  have r25 := Nat.le_trans E3.1 q24
  have E26 := Ext.kp E10 K18 (allS q11 all0)
  show Run p e below _ T (mkF m 11 #[.val (.ref x)] [.ref x9, .ref x2, .ref x2])
  refine w_ldcS w hEL (text := "https://") (hw _ (List.mem_of_getElem? (i := 46) rfl)) hwA (by decide) (vs := [.int 104, .int 116, .int 116, .int 112, .int 115, .int 58, .int 47, .int 47]) (z := 8) (n := 32) ⟨by decide, by decide⟩ (by decide) rfl (by decide) (by decide) (hb hby dofh_11) (pc' := 13) rfl (by decide) (by decide) fun T h27 x28 t29 kb30 w E31 A32 C33 V34 K35 N36 => ?_
  have F37 : Str Z h27 x28 [104, 116, 116, 112, 115, 58, 47, 47] := Str.low A32 V34 C33 rfl rfl K35 (by decide) (by decide)
  obtain ⟨t38, k39, X40⟩ := Str.sl F37 latH (by first | omega | (simp <;> omega))
  refine w_virtualN w hEL (y := (⟨"java/lang/StringBuilder", "append", "(Ljava/lang/String;)Ljava/lang/StringBuilder;"⟩ : MethodName)) (y' := (⟨"java/lang/StringBuilder", "append", "(Ljava/lang/String;)Ljava/lang/StringBuilder;"⟩ : MethodName)) (C := "java/lang/StringBuilder") (a := x9) (hw _ (List.mem_of_getElem? (i := 47) rfl)) (hw _ (List.mem_of_getElem? (i := 48) rfl)) (hw _ (List.mem_of_getElem? (i := 50) rfl)) (hw _ (List.mem_of_getElem? (i := 50) rfl)) (hw _ (List.mem_of_getElem? (i := 49) rfl)) (hw _ (List.mem_of_getElem? (i := 30) rfl)) (hw _ (List.mem_of_getElem? (i := 51) rfl)) (by decide) (B23.1.ext E31) (rm_app G0 h27 x9 x28 t20 t38 kt21 k39 16 [] [104, 116, 116, 112, 115, 58, 47, 47] (B23.ext E31) X40 (by first | omega | (simp <;> omega))) (allS (List.mem_of_getElem? (i := 0) rfl) all0) (allS (Or.inr r12) (allS (Or.inr r25) all0)) (argsL := [.ref x28]) (rest := [.ref x2, .ref x2]) (lenOf (by decide +kernel : parseMethodDescriptor "(Ljava/lang/String;)Ljava/lang/StringBuilder;" = some ⟨[(.object "java/lang/String")], (some (.object "java/lang/StringBuilder"))⟩) rfl) rfl rfl (hb hby dofh_13) (by rw [hml]; rfl) (W := 2) (Nat.le_of_eq rfl) (by decide) (by decide) (by decide) (by decide) (pc' := 16) rfl fun u41 N42 T h43 w K44 P45 => ?_
  obtain ⟨rfl, P46⟩ := P45
  obtain ⟨rfl, B47⟩ := P46
  have E48 := Ext.kp (Ext.tr E26 E31) K44 (allS q11 (allS q24 all0))
  show Run p e below _ T (mkF m 16 #[.val (.ref x)] [.ref x9, .ref x2, .ref x2])
  refine s_aload_n w (hb hby dofh_16) rfl rfl (pc' := 17) rfl ?_
  obtain ⟨t49, k50, X51⟩ := Str.sl ((Sx.ext E3).ext E48) hlat (by first | omega | (simp <;> omega))
  refine w_virtualN w hEL (y := (⟨"java/lang/StringBuilder", "append", "(Ljava/lang/String;)Ljava/lang/StringBuilder;"⟩ : MethodName)) (y' := (⟨"java/lang/StringBuilder", "append", "(Ljava/lang/String;)Ljava/lang/StringBuilder;"⟩ : MethodName)) (C := "java/lang/StringBuilder") (a := x9) (hw _ (List.mem_of_getElem? (i := 47) rfl)) (hw _ (List.mem_of_getElem? (i := 48) rfl)) (hw _ (List.mem_of_getElem? (i := 50) rfl)) (hw _ (List.mem_of_getElem? (i := 50) rfl)) (hw _ (List.mem_of_getElem? (i := 49) rfl)) (hw _ (List.mem_of_getElem? (i := 30) rfl)) (hw _ (List.mem_of_getElem? (i := 51) rfl)) (by decide) B47.1 (rm_app G0 h43 x9 x t20 t49 kt21 k50 16 ([] ++ [104, 116, 116, 112, 115, 58, 47, 47]) ds B47 X51 (by first | omega | (simp <;> omega))) (allS (List.mem_of_getElem? (i := 0) rfl) all0) (allS (Or.inr r12) (allS (Or.inr r25) all0)) (argsL := [.ref x]) (rest := [.ref x2, .ref x2]) (lenOf (by decide +kernel : parseMethodDescriptor "(Ljava/lang/String;)Ljava/lang/StringBuilder;" = some ⟨[(.object "java/lang/String")], (some (.object "java/lang/StringBuilder"))⟩) rfl) rfl rfl (hb hby dofh_17) (by rw [hml]; rfl) (W := 2) (Nat.le_of_eq rfl) (by decide) (by decide) (by decide) (by decide) (pc' := 20) rfl fun u52 N53 T h54 w K55 P56 => ?_
  obtain ⟨rfl, P57⟩ := P56
  obtain ⟨rfl, B58⟩ := P57
  have E59 := Ext.kp E48 K55 (allS q11 (allS q24 all0))
  show Run p e below _ T (mkF m 20 #[.val (.ref x)] [.ref x9, .ref x2, .ref x2])
  refine w_virtualN w hEL (y := (⟨"java/lang/StringBuilder", "toString", "()Ljava/lang/String;"⟩ : MethodName)) (y' := (⟨"java/lang/StringBuilder", "toString", "()Ljava/lang/String;"⟩ : MethodName)) (C := "java/lang/StringBuilder") (a := x9) (hw _ (List.mem_of_getElem? (i := 95) rfl)) (hw _ (List.mem_of_getElem? (i := 96) rfl)) (hw _ (List.mem_of_getElem? (i := 98) rfl)) (hw _ (List.mem_of_getElem? (i := 98) rfl)) (hw _ (List.mem_of_getElem? (i := 97) rfl)) (hw _ (List.mem_of_getElem? (i := 30) rfl)) (hw _ (List.mem_of_getElem? (i := 99) rfl)) (by decide) B58.1 (rm_tos G0 h54 x9 t20 kt21 16 (([] ++ [104, 116, 116, 112, 115, 58, 47, 47]) ++ ds) B58 (by intro c q; rcases List.mem_append.mp q with z | z; exact latH c z; exact hlat c z) (by first | omega | (simp <;> omega)) (by first | omega | (simp <;> omega))) all0 all0 (argsL := []) (rest := [.ref x2, .ref x2]) (lenOf (by decide +kernel : parseMethodDescriptor "()Ljava/lang/String;" = some ⟨[], (some (.object "java/lang/String"))⟩) rfl) rfl rfl (hb hby dofh_20) (by rw [hml]; rfl) (W := 2) (Nat.le_of_eq rfl) (by decide) (by decide) (by decide) (by decide) (pc' := 23) rfl fun u60 N61 T h62 w K63 P64 => ?_
  obtain ⟨rfl, P65⟩ := P64
  obtain ⟨y66, u67, k68, rfl, F69⟩ := P65
  have E70 := Keep.ext0 K63
  show Run p e below _ T (mkF m 23 #[.val (.ref x)] [.ref y66, .ref x2, .ref x2])
  refine w_specialN w hEL (y := (⟨"com/example/minder/minder/http/PdpIdentifier", "<init>", "(Ljava/lang/String;)V"⟩ : MethodName)) (a := x2) rfl (hw _ (List.mem_of_getElem? (i := 140) rfl)) (hw _ (List.mem_of_getElem? (i := 141) rfl)) (hw _ (List.mem_of_getElem? (i := 24) rfl)) (hw _ (List.mem_of_getElem? (i := 142) rfl)) (by decide) (rm_pdi G0 h62 x2 y66 _ ((A6.ext E59).ext E70) ((F_url_x2.ext E59).ext E70)) all0 (allS (Or.inr r5) all0) (argsL := [.ref y66]) (rest := [.ref x2]) (lenOf (by decide +kernel : parseMethodDescriptor "(Ljava/lang/String;)V" = some ⟨[(.object "java/lang/String")], none⟩) rfl) rfl rfl (hb hby dofh_23) (by rw [hml]; rfl) (W := 1) (Nat.le_of_eq rfl) (by decide) (by decide) (by decide) (by decide) (pc' := 26) rfl fun u71 N72 T h73 w K74 P75 => ?_
  obtain ⟨rfl, P76⟩ := P75
  obtain ⟨rfl, A9, F9⟩ := P76
  have S9 := Str.keepO F69.str K74 ((A6.ext E59).ext E70) (by decide) (hw _ (List.mem_of_getElem? (i := 27) rfl))
  have E77 := Ext.kp (Ext.tr (Ext.tr E3 E59) E70) K74 (allS q4 all0)
  show Run p e below _ T (mkF m 26 #[.val (.ref x)] [.ref x2])
  exact w_areturn w hEL hs hlk hret rfl rfl (hb hby dofh_26) (by decide) (by decide) ⟨x2, y66, rfl, A9, F9, S9⟩
theorem pn_5 : plainName "com/example/minder/minder/http/PdpIdentifierOfHostPinLaw" = true := by first | (simp [plainName, overriddenIn]; done) | decide +kernel
theorem ef_law (m : MethodId) (p0 : Int32) (p1 : Int32) (p2 : Int32) (p3 : Int32) : entryFrame m #[.int p0, .int p1, .int p2, .int p3] maxLocals = mkF m 0 #[.val (.int p0), .val (.int p1), .val (.int p2), .val (.int p3), .unset, .unset, .unset, .unset, .unset, .unset, .unset, .unset, .unset, .unset, .unset] [] := by first | (simp [entryFrame, mkF, argsToLocals, Value.category, maxLocals]; done) | rfl
set_option maxRecDepth 65536 in
set_option maxHeartbeats 40000000 in
theorem rm_law {l : Launch} {Z : State} {a0 : Array Value} {zc : Int32} {fm : Value} (G : Gl Z a0 zc fm) (h : Heap) (p0 : Int32) (p1 : Int32) (p2 : Int32) (p3 : Int32)  :
    Met l Z consts_1 x code maxLocals ret room_1 #[.int p0, .int p1, .int p2, .int p3] h [] [] (fun v h' => v = some (.int 1)) := by
  have G0 := G
  obtain ⟨hw, hEL, SC, hz, SF, hfm⟩ := G
  have hw1 : ∀ d ∈ StrChars.Road.words, d.before a0 Z = true := fun d q => hw d (sub1 d q)
  have hwA : ∀ d ∈ Bundle.stringAtoms, d.before a0 Z = true := fun d q => hw d (subA d q)
  have hw2 : ∀ d ∈ wordsS, d.before a0 Z = true := fun d q => hw d (sub2 d q)
  refine Met.of (plainFor_of_name pn_5) ?_
  intro p e s m below meth c T hnm hret hlk hby hml hs w
  have hZ0 := w.old
  refine Run.cast (ef_law m p0 p1 p2 p3) ?_
  have hwL : ∀ d ∈ StrChars.Road.wordsLen, d.before a0 Z = true := fun d q => hw d (subL d q)
  have hwC : ∀ d ∈ StrChars.Road.wordsChN, d.before a0 Z = true := fun d q => hw d (subC d q)
  refine s_iload_n w (hb hby at_0) rfl (pc' := 1) rfl ?_
  refine s_iconst w (hb hby at_1) (v := 3) rfl (pc' := 2) rfl ?_
  refine s_iand w (hb hby at_2) (pc' := 3) rfl ?_
  generalize hv1 : ((p0 &&& 3) : Int32) = v1
  refine s_istore w #[.val (.int p0), .val (.int p1), .val (.int p2), .val (.int p3), .val (.int v1), .unset, .unset, .unset, .unset, .unset, .unset, .unset, .unset, .unset, .unset] (hb hby at_3) rfl (pc' := 5) rfl ?_
  refine s_iload_n w (hb hby at_5) rfl (pc' := 6) rfl ?_
  refine s_sipush w (hb hby at_6) (v := 255) rfl (pc' := 9) rfl ?_
  refine s_iand w (hb hby at_9) (pc' := 10) rfl ?_
  refine s_i2c w (hb hby at_10) (pc' := 11) rfl ?_
  generalize hv2 : ((nar .char (p1 &&& 255)) : Int32) = v2
  refine s_istore w #[.val (.int p0), .val (.int p1), .val (.int p2), .val (.int p3), .val (.int v1), .val (.int v2), .unset, .unset, .unset, .unset, .unset, .unset, .unset, .unset, .unset] (hb hby at_11) rfl (pc' := 13) rfl ?_
  have lv2 : Lat v2 := by rw [← hv2]; exact lat_mask _
  refine s_iload_n w (hb hby at_13) rfl (pc' := 14) rfl ?_
  refine s_sipush w (hb hby at_14) (v := 255) rfl (pc' := 17) rfl ?_
  refine s_iand w (hb hby at_17) (pc' := 18) rfl ?_
  refine s_i2c w (hb hby at_18) (pc' := 19) rfl ?_
  generalize hv3 : ((nar .char (p2 &&& 255)) : Int32) = v3
  refine s_istore w #[.val (.int p0), .val (.int p1), .val (.int p2), .val (.int p3), .val (.int v1), .val (.int v2), .val (.int v3), .unset, .unset, .unset, .unset, .unset, .unset, .unset, .unset] (hb hby at_19) rfl (pc' := 21) rfl ?_
  have lv3 : Lat v3 := by rw [← hv3]; exact lat_mask _
  refine s_iload_n w (hb hby at_21) rfl (pc' := 22) rfl ?_
  refine s_sipush w (hb hby at_22) (v := 255) rfl (pc' := 25) rfl ?_
  refine s_iand w (hb hby at_25) (pc' := 26) rfl ?_
  refine s_i2c w (hb hby at_26) (pc' := 27) rfl ?_
  generalize hv4 : ((nar .char (p3 &&& 255)) : Int32) = v4
  refine s_istore w #[.val (.int p0), .val (.int p1), .val (.int p2), .val (.int p3), .val (.int v1), .val (.int v2), .val (.int v3), .val (.int v4), .unset, .unset, .unset, .unset, .unset, .unset, .unset] (hb hby at_27) rfl (pc' := 29) rfl ?_
  have lv4 : Lat v4 := by rw [← hv4]; exact lat_mask _
  refine s_iconst w (hb hby at_29) (v := 0) rfl (pc' := 30) rfl ?_
  refine w_newP w (hw _ (List.mem_of_getElem? (i := 0) rfl)) rfl rfl (hb hby at_30) (by decide) (n := 0) (by decide) (by decide) (pc' := 32) rfl (by decide) (by decide) fun T h5 x6 k7 w E8 q9 r10 V11 => ?_
  refine s_astore w #[.val (.int p0), .val (.int p1), .val (.int p2), .val (.int p3), .val (.int v1), .val (.int v2), .val (.int v3), .val (.int v4), .val (.ref x6), .unset, .unset, .unset, .unset, .unset, .unset] (hb hby at_32) rfl rfl (pc' := 34) rfl ?_
  refine s_iconst w (hb hby at_34) (v := 1) rfl (pc' := 35) rfl ?_
  refine w_newP w (hw _ (List.mem_of_getElem? (i := 0) rfl)) rfl rfl (hb hby at_35) (by decide) (n := 1) (by decide) (by decide) (pc' := 37) rfl (by decide) (by decide) fun T h12 x13 k14 w E15 q16 r17 V18 => ?_
  refine s_dup w (hb hby at_37) rfl (pc' := 38) rfl ?_
  refine s_iconst w (hb hby at_38) (v := 0) rfl (pc' := 39) rfl ?_
  refine s_iload w (hb hby at_39) rfl (pc' := 41) rfl ?_
  refine w_stC w V18 (i := 0) (by decide) rfl (by decide) (Nat.le_of_ble_eq_true rfl) lv2.nar (hb hby at_41) (Or.inr r17) (pc' := 42) rfl fun T h19 w W20 V21 => ?_
  have E22 := Ext.wr' E15 W20 q16
  refine s_astore w #[.val (.int p0), .val (.int p1), .val (.int p2), .val (.int p3), .val (.int v1), .val (.int v2), .val (.int v3), .val (.int v4), .val (.ref x6), .val (.ref x13), .unset, .unset, .unset, .unset, .unset] (hb hby at_42) rfl rfl (pc' := 44) rfl ?_
  refine s_iconst w (hb hby at_44) (v := 2) rfl (pc' := 45) rfl ?_
  refine w_newP w (hw _ (List.mem_of_getElem? (i := 0) rfl)) rfl rfl (hb hby at_45) (by decide) (n := 2) (by decide) (by decide) (pc' := 47) rfl (by decide) (by decide) fun T h23 x24 k25 w E26 q27 r28 V29 => ?_
  refine s_dup w (hb hby at_47) rfl (pc' := 48) rfl ?_
  refine s_iconst w (hb hby at_48) (v := 0) rfl (pc' := 49) rfl ?_
  refine s_iload w (hb hby at_49) rfl (pc' := 51) rfl ?_
  refine w_stC w V29 (i := 0) (by decide) rfl (by decide) (Nat.le_of_ble_eq_true rfl) lv2.nar (hb hby at_51) (Or.inr r28) (pc' := 52) rfl fun T h30 w W31 V32 => ?_
  have E33 := Ext.wr' E26 W31 q27
  refine s_dup w (hb hby at_52) rfl (pc' := 53) rfl ?_
  refine s_iconst w (hb hby at_53) (v := 1) rfl (pc' := 54) rfl ?_
  refine s_iload w (hb hby at_54) rfl (pc' := 56) rfl ?_
  refine w_stC w V32 (i := 1) (by decide) rfl (by decide) (Nat.le_of_ble_eq_true rfl) lv3.nar (hb hby at_56) (Or.inr r28) (pc' := 57) rfl fun T h34 w W35 V36 => ?_
  have E37 := Ext.wr' E33 W35 q27
  refine s_astore w #[.val (.int p0), .val (.int p1), .val (.int p2), .val (.int p3), .val (.int v1), .val (.int v2), .val (.int v3), .val (.int v4), .val (.ref x6), .val (.ref x13), .val (.ref x24), .unset, .unset, .unset, .unset] (hb hby at_57) rfl rfl (pc' := 59) rfl ?_
  refine s_iconst w (hb hby at_59) (v := 3) rfl (pc' := 60) rfl ?_
  refine w_newP w (hw _ (List.mem_of_getElem? (i := 0) rfl)) rfl rfl (hb hby at_60) (by decide) (n := 3) (by decide) (by decide) (pc' := 62) rfl (by decide) (by decide) fun T h38 x39 k40 w E41 q42 r43 V44 => ?_
  refine s_dup w (hb hby at_62) rfl (pc' := 63) rfl ?_
  refine s_iconst w (hb hby at_63) (v := 0) rfl (pc' := 64) rfl ?_
  refine s_iload w (hb hby at_64) rfl (pc' := 66) rfl ?_
  refine w_stC w V44 (i := 0) (by decide) rfl (by decide) (Nat.le_of_ble_eq_true rfl) lv2.nar (hb hby at_66) (Or.inr r43) (pc' := 67) rfl fun T h45 w W46 V47 => ?_
  have E48 := Ext.wr' E41 W46 q42
  refine s_dup w (hb hby at_67) rfl (pc' := 68) rfl ?_
  refine s_iconst w (hb hby at_68) (v := 1) rfl (pc' := 69) rfl ?_
  refine s_iload w (hb hby at_69) rfl (pc' := 71) rfl ?_
  refine w_stC w V47 (i := 1) (by decide) rfl (by decide) (Nat.le_of_ble_eq_true rfl) lv3.nar (hb hby at_71) (Or.inr r43) (pc' := 72) rfl fun T h49 w W50 V51 => ?_
  have E52 := Ext.wr' E48 W50 q42
  refine s_dup w (hb hby at_72) rfl (pc' := 73) rfl ?_
  refine s_iconst w (hb hby at_73) (v := 2) rfl (pc' := 74) rfl ?_
  refine s_iload w (hb hby at_74) rfl (pc' := 76) rfl ?_
  refine w_stC w V51 (i := 2) (by decide) rfl (by decide) (Nat.le_of_ble_eq_true rfl) lv4.nar (hb hby at_76) (Or.inr r43) (pc' := 77) rfl fun T h53 w W54 V55 => ?_
  have E56 := Ext.wr' E52 W54 q42
  refine s_astore w #[.val (.int p0), .val (.int p1), .val (.int p2), .val (.int p3), .val (.int v1), .val (.int v2), .val (.int v3), .val (.int v4), .val (.ref x6), .val (.ref x13), .val (.ref x24), .val (.ref x39), .unset, .unset, .unset] (hb hby at_77) rfl rfl (pc' := 79) rfl ?_
  refine s_iload w (hb hby at_79) rfl (pc' := 81) rfl ?_
  refine s_if_ne w (hb hby at_81) (by decide) (pc1 := 84) rfl (pc2 := 89) rfl (fun ct57 => ?_) (fun ct57 => ?_)
  · subst ct57
    refine s_aload w (hb hby at_84) rfl rfl (pc' := 86) rfl ?_
    refine s_goto w (hb hby at_86) (by decide) (pc' := 113) rfl ?_
    refine s_astore w #[.val (.int p0), .val (.int p1), .val (.int p2), .val (.int p3), .val (.int 0), .val (.int v2), .val (.int v3), .val (.int v4), .val (.ref x6), .val (.ref x13), .val (.ref x24), .val (.ref x39), .val (.ref x6), .unset, .unset] (hb hby at_113) rfl rfl (pc' := 115) rfl ?_
    refine w_new w (hw _ (List.mem_of_getElem? (i := 1) rfl)) (hw _ (List.mem_of_getElem? (i := 2) rfl)) (hw _ (List.mem_of_getElem? (i := 3) rfl)) (hb hby at_115) (pc' := 118) rfl (by decide) (by decide) fun T h58 x59 w E60 q61 r62 A63 D64 => ?_
    have F_value_x59 : Fld Z h58 x59 "java/lang/String" "value" "[B" (.null) := D64 (Or.inr (hw _ (List.mem_of_getElem? (i := 16) rfl))) (ty := (.array .byte)) (by decide)
    have F_coder_x59 : Fld Z h58 x59 "java/lang/String" "coder" "B" (.int 0) := D64 (Or.inr (hw _ (List.mem_of_getElem? (i := 17) rfl))) (ty := .byte) (by decide)
    refine s_dup w (hb hby at_118) rfl (pc' := 119) rfl ?_
    refine s_aload w (hb hby at_119) rfl rfl (pc' := 121) rfl ?_
    refine w_strInit w hEL hmem hw1 hw2 (hw _ (List.mem_of_getElem? (i := 4) rfl)) (hw _ (List.mem_of_getElem? (i := 5) rfl)) (cs := []) (n := 0) A63 F_value_x59 F_coder_x59 (show Arv Z h58 x6 k7 .char 0 (([] : List Int32).map Value.int) (.int 0) from ((((V11.ext E22).ext E37).ext E56).ext E60)) SC hz rfl rfl (by decide) (by intro c q; cases q) (List.mem_of_getElem? (i := 0) rfl) (Or.inr r62) (Nat.le_trans hZ0.1 r62) (hb hby at_121) (by rw [hml]; rfl) (W := 1) (Nat.le_of_eq rfl) (by decide) (by decide) (by decide) (by decide) (pc' := 124) rfl fun T h65 w K66 F67 => ?_
    have E68 := Ext.kp E60 K66 (allS q61 all0)
    refine s_astore w #[.val (.int p0), .val (.int p1), .val (.int p2), .val (.int p3), .val (.int 0), .val (.int v2), .val (.int v3), .val (.int v4), .val (.ref x6), .val (.ref x13), .val (.ref x24), .val (.ref x39), .val (.ref x6), .val (.ref x59), .unset] (hb hby at_124) rfl rfl (pc' := 126) rfl ?_
    refine s_aload w (hb hby at_126) rfl rfl (pc' := 128) rfl ?_
    have latD : ∀ c ∈ ([] : List Int32), Lat c := (by intro c q; cases q)
    refine w_staticN w hEL (y := (⟨"com/example/minder/minder/http/PdpIdentifier", "ofHost", "(Ljava/lang/String;)Lcom/example/minder/minder/http/PdpIdentifier;"⟩ : MethodName)) (hw _ (List.mem_of_getElem? (i := 22) rfl)) (hw _ (List.mem_of_getElem? (i := 23) rfl)) (hw _ (List.mem_of_getElem? (i := 24) rfl)) (hw _ (List.mem_of_getElem? (i := 25) rfl)) (by decide) (rm_ofh G0 h65 x59 [] F67 latD (Nat.le_of_ble_eq_true rfl)) all0 all0 (argsL := [.ref x59]) (rest := []) (lenOf (by decide +kernel : parseMethodDescriptor "(Ljava/lang/String;)Lcom/example/minder/minder/http/PdpIdentifier;" = some ⟨[(.object "java/lang/String")], (some (.object "com/example/minder/minder/http/PdpIdentifier"))⟩) rfl) rfl rfl (hb hby at_128) (by rw [hml]; rfl) (W := 0) (Nat.le_of_eq rfl) (by decide) (by decide) (by decide) (by decide) (pc' := 131) rfl fun u69 N70 T h71 w K72 P73 => ?_
    obtain ⟨rfl, P74⟩ := P73
    obtain ⟨p75, y76, rfl, A77, F78, S79⟩ := P74
    have E80 := Keep.ext0 K72
    have S79 : Str Z h71 y76 [104, 116, 116, 112, 115, 58, 47, 47] := S79
    show Run p e below _ T (mkF m 131 #[.val (.int p0), .val (.int p1), .val (.int p2), .val (.int p3), .val (.int 0), .val (.int v2), .val (.int v3), .val (.int v4), .val (.ref x6), .val (.ref x13), .val (.ref x24), .val (.ref x39), .val (.ref x6), .val (.ref x59), .unset] [.ref p75])
    have latS : ∀ c ∈ ([104, 116, 116, 112, 115, 58, 47, 47] : List Int32), Lat c := (by intro c q; simp only [List.mem_cons, List.not_mem_nil, or_false] at q; rcases q with rfl | rfl | rfl | rfl | rfl | rfl | rfl | rfl <;> first | exact (show Lat 104 by unfold Lat; decide) | exact (show Lat 116 by unfold Lat; decide) | exact (show Lat 116 by unfold Lat; decide) | exact (show Lat 112 by unfold Lat; decide) | exact (show Lat 115 by unfold Lat; decide) | exact (show Lat 58 by unfold Lat; decide) | exact (show Lat 47 by unfold Lat; decide) | exact (show Lat 47 by unfold Lat; decide))
    refine w_virtualN w hEL (y := (⟨"com/example/minder/minder/http/PdpIdentifier", "toString", "()Ljava/lang/String;"⟩ : MethodName)) (y' := (⟨"com/example/minder/minder/http/PdpIdentifier", "toString", "()Ljava/lang/String;"⟩ : MethodName)) (C := "com/example/minder/minder/http/PdpIdentifier") (a := p75) (hw _ (List.mem_of_getElem? (i := 146) rfl)) (hw _ (List.mem_of_getElem? (i := 147) rfl)) (hw _ (List.mem_of_getElem? (i := 149) rfl)) (hw _ (List.mem_of_getElem? (i := 149) rfl)) (hw _ (List.mem_of_getElem? (i := 148) rfl)) (hw _ (List.mem_of_getElem? (i := 24) rfl)) (hw _ (List.mem_of_getElem? (i := 150) rfl)) (by decide) A77 (rm_pdt G0 h71 p75 y76 F78) all0 all0 (argsL := []) (rest := []) (lenOf (by decide +kernel : parseMethodDescriptor "()Ljava/lang/String;" = some ⟨[], (some (.object "java/lang/String"))⟩) rfl) rfl rfl (hb hby at_131) (by rw [hml]; rfl) (W := 0) (Nat.le_of_eq rfl) (by decide) (by decide) (by decide) (by decide) (pc' := 134) rfl fun u81 N82 T h83 w K84 P85 => ?_
    obtain ⟨rfl, P86⟩ := P85
    obtain ⟨rfl, rfl⟩ := P86
    show Run p e below _ T (mkF m 134 #[.val (.int p0), .val (.int p1), .val (.int p2), .val (.int p3), .val (.int 0), .val (.int v2), .val (.int v3), .val (.int v4), .val (.ref x6), .val (.ref x13), .val (.ref x24), .val (.ref x39), .val (.ref x6), .val (.ref x59), .unset] [.ref y76])
    refine s_astore w #[.val (.int p0), .val (.int p1), .val (.int p2), .val (.int p3), .val (.int 0), .val (.int v2), .val (.int v3), .val (.int v4), .val (.ref x6), .val (.ref x13), .val (.ref x24), .val (.ref x39), .val (.ref x6), .val (.ref x59), .val (.ref y76)] (hb hby at_134) rfl rfl (pc' := 136) rfl ?_
    refine s_aload w (hb hby at_136) rfl rfl (pc' := 138) rfl ?_
    obtain ⟨XE, Xt, Xkb, Xcd, XN, Xvs, Xq1, Xq2, Xq3, Xq4, Xq5, Xq6⟩ := S79
    refine w_virtB w (y := Len.yN) (y' := Len.yN) (C := ST) (hw _ (List.mem_of_getElem? (i := 151) rfl)) (hw _ (List.mem_of_getElem? (i := 58) rfl)) (hw _ (List.mem_of_getElem? (i := 60) rfl)) (hw _ (List.mem_of_getElem? (i := 60) rfl)) (hw _ (List.mem_of_getElem? (i := 59) rfl)) (by decide) XE (Pv := fun v => v = some (.int (Int32.ofNat ([104, 116, 116, 112, 115, 58, 47, 47]).length))) (as' := #[.ref y76]) (W := 0) (fun vm0 hZ => StrChars.Road.lenW hZ hwL (hw _ (List.mem_of_getElem? (i := 2) rfl)) XE Xq1 Xq2 Xq3 Xq4 Xq5 (SC.ext w.old) hz Xq6 (by decide) (by decide)) (argsL := []) (rest := []) (lenOf (by decide +kernel : parseMethodDescriptor "()I" = some ⟨[], (some .int)⟩) rfl) rfl rfl (hb hby at_138) (by rw [hml]; rfl) (Nat.le_of_eq rfl) (by decide) (by decide) (pc' := 141) rfl fun u87 T w P88 => ?_
    obtain rfl := P88
    show Run p e below _ T (mkF m 141 #[.val (.int p0), .val (.int p1), .val (.int p2), .val (.int p3), .val (.int 0), .val (.int v2), .val (.int v3), .val (.int v4), .val (.ref x6), .val (.ref x13), .val (.ref x24), .val (.ref x39), .val (.ref x6), .val (.ref x59), .val (.ref y76)] [.int (Int32.ofNat ([104, 116, 116, 112, 115, 58, 47, 47]).length)])
    show Run p e below _ T (mkF m 141 #[.val (.int p0), .val (.int p1), .val (.int p2), .val (.int p3), .val (.int 0), .val (.int v2), .val (.int v3), .val (.int v4), .val (.ref x6), .val (.ref x13), .val (.ref x24), .val (.ref x39), .val (.ref x6), .val (.ref x59), .val (.ref y76)] [.int 8])
    refine s_bipush w (hb hby at_141) (v := 8) rfl (pc' := 143) rfl ?_
    refine s_iload w (hb hby at_143) rfl (pc' := 145) rfl ?_
    refine s_iadd w (hb hby at_145) (pc' := 146) rfl ?_
    show Run p e below _ T (mkF m 146 #[.val (.int p0), .val (.int p1), .val (.int p2), .val (.int p3), .val (.int 0), .val (.int v2), .val (.int v3), .val (.int v4), .val (.ref x6), .val (.ref x13), .val (.ref x24), .val (.ref x39), .val (.ref x6), .val (.ref x59), .val (.ref y76)] [.int 8, .int 8])
    refine s_icmp_eq w (hb hby at_146) (by decide) (pc1 := 149) rfl (pc2 := 151) rfl (fun q => absurd q (by decide)) (fun _ => ?_)
    refine s_aload w (hb hby at_151) rfl rfl (pc' := 153) rfl ?_
    refine s_iconst w (hb hby at_153) (v := 0) rfl (pc' := 154) rfl ?_
    obtain ⟨Yt, Yk, Yv, Yc, Ya, Yl⟩ := S79.lat latS
    refine w_virtB w (y := (⟨"java/lang/String", "charAt", "(I)C"⟩ : MethodName)) (y' := (⟨"java/lang/String", "charAt", "(I)C"⟩ : MethodName)) (C := ST) (hw _ (List.mem_of_getElem? (i := 152) rfl)) (hw _ (List.mem_of_getElem? (i := 153) rfl)) (hw _ (List.mem_of_getElem? (i := 155) rfl)) (hw _ (List.mem_of_getElem? (i := 155) rfl)) (hw _ (List.mem_of_getElem? (i := 154) rfl)) (by decide) S79.1 (Pv := fun v => v = some (.int (List.getD [104, 116, 116, 112, 115, 58, 47, 47] 0 0))) (as' := #[.ref y76, .int 0]) (W := 0) (fun vm0 hZ => StrChars.Road.chN hZ hwC (hw _ (List.mem_of_getElem? (i := 2) rfl)) S79.1 Yv Yc Ya (codOfL latS) (fun c q => lat_chr (latS c q)) (SC.ext w.old) hz (SF.ext w.old) hfm Yl (i := 0) (Nat.le_of_ble_eq_true rfl) rfl (by decide) (by decide)) (argsL := [.int 0]) (rest := []) (lenOf (by decide +kernel : parseMethodDescriptor "(I)C" = some ⟨[.int], (some .char)⟩) rfl) rfl rfl (hb hby at_154) (by rw [hml]; rfl) (Nat.le_of_eq rfl) (by decide) (by decide) (pc' := 157) rfl fun u90 T w P91 => ?_
    obtain rfl := P91
    show Run p e below _ T (mkF m 157 #[.val (.int p0), .val (.int p1), .val (.int p2), .val (.int p3), .val (.int 0), .val (.int v2), .val (.int v3), .val (.int v4), .val (.ref x6), .val (.ref x13), .val (.ref x24), .val (.ref x39), .val (.ref x6), .val (.ref x59), .val (.ref y76)] [.int 104])
    refine s_bipush w (hb hby at_157) (v := 104) rfl (pc' := 159) rfl ?_
    refine s_icmp_ne w (hb hby at_159) (by decide) (pc1 := 162) rfl (pc2 := 195) rfl (fun _ => ?_) (fun q => absurd q (by decide))
    refine s_aload w (hb hby at_162) rfl rfl (pc' := 164) rfl ?_
    refine s_iconst w (hb hby at_164) (v := 1) rfl (pc' := 165) rfl ?_
    obtain ⟨Yt, Yk, Yv, Yc, Ya, Yl⟩ := S79.lat latS
    refine w_virtB w (y := (⟨"java/lang/String", "charAt", "(I)C"⟩ : MethodName)) (y' := (⟨"java/lang/String", "charAt", "(I)C"⟩ : MethodName)) (C := ST) (hw _ (List.mem_of_getElem? (i := 152) rfl)) (hw _ (List.mem_of_getElem? (i := 153) rfl)) (hw _ (List.mem_of_getElem? (i := 155) rfl)) (hw _ (List.mem_of_getElem? (i := 155) rfl)) (hw _ (List.mem_of_getElem? (i := 154) rfl)) (by decide) S79.1 (Pv := fun v => v = some (.int (List.getD [104, 116, 116, 112, 115, 58, 47, 47] 1 0))) (as' := #[.ref y76, .int 1]) (W := 0) (fun vm0 hZ => StrChars.Road.chN hZ hwC (hw _ (List.mem_of_getElem? (i := 2) rfl)) S79.1 Yv Yc Ya (codOfL latS) (fun c q => lat_chr (latS c q)) (SC.ext w.old) hz (SF.ext w.old) hfm Yl (i := 1) (Nat.le_of_ble_eq_true rfl) rfl (by decide) (by decide)) (argsL := [.int 1]) (rest := []) (lenOf (by decide +kernel : parseMethodDescriptor "(I)C" = some ⟨[.int], (some .char)⟩) rfl) rfl rfl (hb hby at_165) (by rw [hml]; rfl) (Nat.le_of_eq rfl) (by decide) (by decide) (pc' := 168) rfl fun u93 T w P94 => ?_
    obtain rfl := P94
    show Run p e below _ T (mkF m 168 #[.val (.int p0), .val (.int p1), .val (.int p2), .val (.int p3), .val (.int 0), .val (.int v2), .val (.int v3), .val (.int v4), .val (.ref x6), .val (.ref x13), .val (.ref x24), .val (.ref x39), .val (.ref x6), .val (.ref x59), .val (.ref y76)] [.int 116])
    refine s_bipush w (hb hby at_168) (v := 116) rfl (pc' := 170) rfl ?_
    refine s_icmp_ne w (hb hby at_170) (by decide) (pc1 := 173) rfl (pc2 := 195) rfl (fun _ => ?_) (fun q => absurd q (by decide))
    refine s_aload w (hb hby at_173) rfl rfl (pc' := 175) rfl ?_
    refine s_iconst w (hb hby at_175) (v := 2) rfl (pc' := 176) rfl ?_
    obtain ⟨Yt, Yk, Yv, Yc, Ya, Yl⟩ := S79.lat latS
    refine w_virtB w (y := (⟨"java/lang/String", "charAt", "(I)C"⟩ : MethodName)) (y' := (⟨"java/lang/String", "charAt", "(I)C"⟩ : MethodName)) (C := ST) (hw _ (List.mem_of_getElem? (i := 152) rfl)) (hw _ (List.mem_of_getElem? (i := 153) rfl)) (hw _ (List.mem_of_getElem? (i := 155) rfl)) (hw _ (List.mem_of_getElem? (i := 155) rfl)) (hw _ (List.mem_of_getElem? (i := 154) rfl)) (by decide) S79.1 (Pv := fun v => v = some (.int (List.getD [104, 116, 116, 112, 115, 58, 47, 47] 2 0))) (as' := #[.ref y76, .int 2]) (W := 0) (fun vm0 hZ => StrChars.Road.chN hZ hwC (hw _ (List.mem_of_getElem? (i := 2) rfl)) S79.1 Yv Yc Ya (codOfL latS) (fun c q => lat_chr (latS c q)) (SC.ext w.old) hz (SF.ext w.old) hfm Yl (i := 2) (Nat.le_of_ble_eq_true rfl) rfl (by decide) (by decide)) (argsL := [.int 2]) (rest := []) (lenOf (by decide +kernel : parseMethodDescriptor "(I)C" = some ⟨[.int], (some .char)⟩) rfl) rfl rfl (hb hby at_176) (by rw [hml]; rfl) (Nat.le_of_eq rfl) (by decide) (by decide) (pc' := 179) rfl fun u96 T w P97 => ?_
    obtain rfl := P97
    show Run p e below _ T (mkF m 179 #[.val (.int p0), .val (.int p1), .val (.int p2), .val (.int p3), .val (.int 0), .val (.int v2), .val (.int v3), .val (.int v4), .val (.ref x6), .val (.ref x13), .val (.ref x24), .val (.ref x39), .val (.ref x6), .val (.ref x59), .val (.ref y76)] [.int 116])
    refine s_bipush w (hb hby at_179) (v := 116) rfl (pc' := 181) rfl ?_
    refine s_icmp_ne w (hb hby at_181) (by decide) (pc1 := 184) rfl (pc2 := 195) rfl (fun _ => ?_) (fun q => absurd q (by decide))
    refine s_aload w (hb hby at_184) rfl rfl (pc' := 186) rfl ?_
    refine s_iconst w (hb hby at_186) (v := 3) rfl (pc' := 187) rfl ?_
    obtain ⟨Yt, Yk, Yv, Yc, Ya, Yl⟩ := S79.lat latS
    refine w_virtB w (y := (⟨"java/lang/String", "charAt", "(I)C"⟩ : MethodName)) (y' := (⟨"java/lang/String", "charAt", "(I)C"⟩ : MethodName)) (C := ST) (hw _ (List.mem_of_getElem? (i := 152) rfl)) (hw _ (List.mem_of_getElem? (i := 153) rfl)) (hw _ (List.mem_of_getElem? (i := 155) rfl)) (hw _ (List.mem_of_getElem? (i := 155) rfl)) (hw _ (List.mem_of_getElem? (i := 154) rfl)) (by decide) S79.1 (Pv := fun v => v = some (.int (List.getD [104, 116, 116, 112, 115, 58, 47, 47] 3 0))) (as' := #[.ref y76, .int 3]) (W := 0) (fun vm0 hZ => StrChars.Road.chN hZ hwC (hw _ (List.mem_of_getElem? (i := 2) rfl)) S79.1 Yv Yc Ya (codOfL latS) (fun c q => lat_chr (latS c q)) (SC.ext w.old) hz (SF.ext w.old) hfm Yl (i := 3) (Nat.le_of_ble_eq_true rfl) rfl (by decide) (by decide)) (argsL := [.int 3]) (rest := []) (lenOf (by decide +kernel : parseMethodDescriptor "(I)C" = some ⟨[.int], (some .char)⟩) rfl) rfl rfl (hb hby at_187) (by rw [hml]; rfl) (Nat.le_of_eq rfl) (by decide) (by decide) (pc' := 190) rfl fun u99 T w P100 => ?_
    obtain rfl := P100
    show Run p e below _ T (mkF m 190 #[.val (.int p0), .val (.int p1), .val (.int p2), .val (.int p3), .val (.int 0), .val (.int v2), .val (.int v3), .val (.int v4), .val (.ref x6), .val (.ref x13), .val (.ref x24), .val (.ref x39), .val (.ref x6), .val (.ref x59), .val (.ref y76)] [.int 112])
    refine s_bipush w (hb hby at_190) (v := 112) rfl (pc' := 192) rfl ?_
    refine s_icmp_eq w (hb hby at_192) (by decide) (pc1 := 195) rfl (pc2 := 197) rfl (fun q => absurd q (by decide)) (fun _ => ?_)
    refine s_aload w (hb hby at_197) rfl rfl (pc' := 199) rfl ?_
    refine s_iconst w (hb hby at_199) (v := 4) rfl (pc' := 200) rfl ?_
    obtain ⟨Yt, Yk, Yv, Yc, Ya, Yl⟩ := S79.lat latS
    refine w_virtB w (y := (⟨"java/lang/String", "charAt", "(I)C"⟩ : MethodName)) (y' := (⟨"java/lang/String", "charAt", "(I)C"⟩ : MethodName)) (C := ST) (hw _ (List.mem_of_getElem? (i := 152) rfl)) (hw _ (List.mem_of_getElem? (i := 153) rfl)) (hw _ (List.mem_of_getElem? (i := 155) rfl)) (hw _ (List.mem_of_getElem? (i := 155) rfl)) (hw _ (List.mem_of_getElem? (i := 154) rfl)) (by decide) S79.1 (Pv := fun v => v = some (.int (List.getD [104, 116, 116, 112, 115, 58, 47, 47] 4 0))) (as' := #[.ref y76, .int 4]) (W := 0) (fun vm0 hZ => StrChars.Road.chN hZ hwC (hw _ (List.mem_of_getElem? (i := 2) rfl)) S79.1 Yv Yc Ya (codOfL latS) (fun c q => lat_chr (latS c q)) (SC.ext w.old) hz (SF.ext w.old) hfm Yl (i := 4) (Nat.le_of_ble_eq_true rfl) rfl (by decide) (by decide)) (argsL := [.int 4]) (rest := []) (lenOf (by decide +kernel : parseMethodDescriptor "(I)C" = some ⟨[.int], (some .char)⟩) rfl) rfl rfl (hb hby at_200) (by rw [hml]; rfl) (Nat.le_of_eq rfl) (by decide) (by decide) (pc' := 203) rfl fun u102 T w P103 => ?_
    obtain rfl := P103
    show Run p e below _ T (mkF m 203 #[.val (.int p0), .val (.int p1), .val (.int p2), .val (.int p3), .val (.int 0), .val (.int v2), .val (.int v3), .val (.int v4), .val (.ref x6), .val (.ref x13), .val (.ref x24), .val (.ref x39), .val (.ref x6), .val (.ref x59), .val (.ref y76)] [.int 115])
    refine s_bipush w (hb hby at_203) (v := 115) rfl (pc' := 205) rfl ?_
    refine s_icmp_ne w (hb hby at_205) (by decide) (pc1 := 208) rfl (pc2 := 243) rfl (fun _ => ?_) (fun q => absurd q (by decide))
    refine s_aload w (hb hby at_208) rfl rfl (pc' := 210) rfl ?_
    refine s_iconst w (hb hby at_210) (v := 5) rfl (pc' := 211) rfl ?_
    obtain ⟨Yt, Yk, Yv, Yc, Ya, Yl⟩ := S79.lat latS
    refine w_virtB w (y := (⟨"java/lang/String", "charAt", "(I)C"⟩ : MethodName)) (y' := (⟨"java/lang/String", "charAt", "(I)C"⟩ : MethodName)) (C := ST) (hw _ (List.mem_of_getElem? (i := 152) rfl)) (hw _ (List.mem_of_getElem? (i := 153) rfl)) (hw _ (List.mem_of_getElem? (i := 155) rfl)) (hw _ (List.mem_of_getElem? (i := 155) rfl)) (hw _ (List.mem_of_getElem? (i := 154) rfl)) (by decide) S79.1 (Pv := fun v => v = some (.int (List.getD [104, 116, 116, 112, 115, 58, 47, 47] 5 0))) (as' := #[.ref y76, .int 5]) (W := 0) (fun vm0 hZ => StrChars.Road.chN hZ hwC (hw _ (List.mem_of_getElem? (i := 2) rfl)) S79.1 Yv Yc Ya (codOfL latS) (fun c q => lat_chr (latS c q)) (SC.ext w.old) hz (SF.ext w.old) hfm Yl (i := 5) (Nat.le_of_ble_eq_true rfl) rfl (by decide) (by decide)) (argsL := [.int 5]) (rest := []) (lenOf (by decide +kernel : parseMethodDescriptor "(I)C" = some ⟨[.int], (some .char)⟩) rfl) rfl rfl (hb hby at_211) (by rw [hml]; rfl) (Nat.le_of_eq rfl) (by decide) (by decide) (pc' := 214) rfl fun u105 T w P106 => ?_
    obtain rfl := P106
    show Run p e below _ T (mkF m 214 #[.val (.int p0), .val (.int p1), .val (.int p2), .val (.int p3), .val (.int 0), .val (.int v2), .val (.int v3), .val (.int v4), .val (.ref x6), .val (.ref x13), .val (.ref x24), .val (.ref x39), .val (.ref x6), .val (.ref x59), .val (.ref y76)] [.int 58])
    refine s_bipush w (hb hby at_214) (v := 58) rfl (pc' := 216) rfl ?_
    refine s_icmp_ne w (hb hby at_216) (by decide) (pc1 := 219) rfl (pc2 := 243) rfl (fun _ => ?_) (fun q => absurd q (by decide))
    refine s_aload w (hb hby at_219) rfl rfl (pc' := 221) rfl ?_
    refine s_bipush w (hb hby at_221) (v := 6) rfl (pc' := 223) rfl ?_
    obtain ⟨Yt, Yk, Yv, Yc, Ya, Yl⟩ := S79.lat latS
    refine w_virtB w (y := (⟨"java/lang/String", "charAt", "(I)C"⟩ : MethodName)) (y' := (⟨"java/lang/String", "charAt", "(I)C"⟩ : MethodName)) (C := ST) (hw _ (List.mem_of_getElem? (i := 152) rfl)) (hw _ (List.mem_of_getElem? (i := 153) rfl)) (hw _ (List.mem_of_getElem? (i := 155) rfl)) (hw _ (List.mem_of_getElem? (i := 155) rfl)) (hw _ (List.mem_of_getElem? (i := 154) rfl)) (by decide) S79.1 (Pv := fun v => v = some (.int (List.getD [104, 116, 116, 112, 115, 58, 47, 47] 6 0))) (as' := #[.ref y76, .int 6]) (W := 0) (fun vm0 hZ => StrChars.Road.chN hZ hwC (hw _ (List.mem_of_getElem? (i := 2) rfl)) S79.1 Yv Yc Ya (codOfL latS) (fun c q => lat_chr (latS c q)) (SC.ext w.old) hz (SF.ext w.old) hfm Yl (i := 6) (Nat.le_of_ble_eq_true rfl) rfl (by decide) (by decide)) (argsL := [.int 6]) (rest := []) (lenOf (by decide +kernel : parseMethodDescriptor "(I)C" = some ⟨[.int], (some .char)⟩) rfl) rfl rfl (hb hby at_223) (by rw [hml]; rfl) (Nat.le_of_eq rfl) (by decide) (by decide) (pc' := 226) rfl fun u108 T w P109 => ?_
    obtain rfl := P109
    show Run p e below _ T (mkF m 226 #[.val (.int p0), .val (.int p1), .val (.int p2), .val (.int p3), .val (.int 0), .val (.int v2), .val (.int v3), .val (.int v4), .val (.ref x6), .val (.ref x13), .val (.ref x24), .val (.ref x39), .val (.ref x6), .val (.ref x59), .val (.ref y76)] [.int 47])
    refine s_bipush w (hb hby at_226) (v := 47) rfl (pc' := 228) rfl ?_
    refine s_icmp_ne w (hb hby at_228) (by decide) (pc1 := 231) rfl (pc2 := 243) rfl (fun _ => ?_) (fun q => absurd q (by decide))
    refine s_aload w (hb hby at_231) rfl rfl (pc' := 233) rfl ?_
    refine s_bipush w (hb hby at_233) (v := 7) rfl (pc' := 235) rfl ?_
    obtain ⟨Yt, Yk, Yv, Yc, Ya, Yl⟩ := S79.lat latS
    refine w_virtB w (y := (⟨"java/lang/String", "charAt", "(I)C"⟩ : MethodName)) (y' := (⟨"java/lang/String", "charAt", "(I)C"⟩ : MethodName)) (C := ST) (hw _ (List.mem_of_getElem? (i := 152) rfl)) (hw _ (List.mem_of_getElem? (i := 153) rfl)) (hw _ (List.mem_of_getElem? (i := 155) rfl)) (hw _ (List.mem_of_getElem? (i := 155) rfl)) (hw _ (List.mem_of_getElem? (i := 154) rfl)) (by decide) S79.1 (Pv := fun v => v = some (.int (List.getD [104, 116, 116, 112, 115, 58, 47, 47] 7 0))) (as' := #[.ref y76, .int 7]) (W := 0) (fun vm0 hZ => StrChars.Road.chN hZ hwC (hw _ (List.mem_of_getElem? (i := 2) rfl)) S79.1 Yv Yc Ya (codOfL latS) (fun c q => lat_chr (latS c q)) (SC.ext w.old) hz (SF.ext w.old) hfm Yl (i := 7) (Nat.le_of_ble_eq_true rfl) rfl (by decide) (by decide)) (argsL := [.int 7]) (rest := []) (lenOf (by decide +kernel : parseMethodDescriptor "(I)C" = some ⟨[.int], (some .char)⟩) rfl) rfl rfl (hb hby at_235) (by rw [hml]; rfl) (Nat.le_of_eq rfl) (by decide) (by decide) (pc' := 238) rfl fun u111 T w P112 => ?_
    obtain rfl := P112
    show Run p e below _ T (mkF m 238 #[.val (.int p0), .val (.int p1), .val (.int p2), .val (.int p3), .val (.int 0), .val (.int v2), .val (.int v3), .val (.int v4), .val (.ref x6), .val (.ref x13), .val (.ref x24), .val (.ref x39), .val (.ref x6), .val (.ref x59), .val (.ref y76)] [.int 47])
    refine s_bipush w (hb hby at_238) (v := 47) rfl (pc' := 240) rfl ?_
    refine s_icmp_eq w (hb hby at_240) (by decide) (pc1 := 243) rfl (pc2 := 245) rfl (fun q => absurd q (by decide)) (fun _ => ?_)
    refine s_iload w (hb hby at_245) rfl (pc' := 247) rfl ?_
    refine s_iconst w (hb hby at_247) (v := 1) rfl (pc' := 248) rfl ?_
    refine s_icmp_lt w (hb hby at_248) (by decide) (pc1 := 251) rfl (pc2 := 265) rfl (fun q => absurd q (by decide)) (fun _ => ?_)
    refine s_iload w (hb hby at_265) rfl (pc' := 267) rfl ?_
    refine s_iconst w (hb hby at_267) (v := 2) rfl (pc' := 268) rfl ?_
    refine s_icmp_lt w (hb hby at_268) (by decide) (pc1 := 271) rfl (pc2 := 285) rfl (fun q => absurd q (by decide)) (fun _ => ?_)
    refine s_iload w (hb hby at_285) rfl (pc' := 287) rfl ?_
    refine s_iconst w (hb hby at_287) (v := 3) rfl (pc' := 288) rfl ?_
    refine s_icmp_lt w (hb hby at_288) (by decide) (pc1 := 291) rfl (pc2 := 305) rfl (fun q => absurd q (by decide)) (fun _ => ?_)
    refine s_iconst w (hb hby at_305) (v := 1) rfl (pc' := 306) rfl ?_
    exact w_ireturn w hEL hs hlk hret rfl (Or.inr (Or.inl rfl)) (hb hby at_306) (by decide) (by decide) rfl
  · skip
    refine s_iload w (hb hby at_89) rfl (pc' := 91) rfl ?_
    refine s_iconst w (hb hby at_91) (v := 1) rfl (pc' := 92) rfl ?_
    refine s_icmp_ne w (hb hby at_92) (by decide) (pc1 := 95) rfl (pc2 := 100) rfl (fun ct117 => ?_) (fun ct117 => ?_)
    · subst ct117
      refine s_aload w (hb hby at_95) rfl rfl (pc' := 97) rfl ?_
      refine s_goto w (hb hby at_97) (by decide) (pc' := 113) rfl ?_
      refine s_astore w #[.val (.int p0), .val (.int p1), .val (.int p2), .val (.int p3), .val (.int 1), .val (.int v2), .val (.int v3), .val (.int v4), .val (.ref x6), .val (.ref x13), .val (.ref x24), .val (.ref x39), .val (.ref x13), .unset, .unset] (hb hby at_113) rfl rfl (pc' := 115) rfl ?_
      refine w_new w (hw _ (List.mem_of_getElem? (i := 1) rfl)) (hw _ (List.mem_of_getElem? (i := 2) rfl)) (hw _ (List.mem_of_getElem? (i := 3) rfl)) (hb hby at_115) (pc' := 118) rfl (by decide) (by decide) fun T h118 x119 w E120 q121 r122 A123 D124 => ?_
      have F_value_x119 : Fld Z h118 x119 "java/lang/String" "value" "[B" (.null) := D124 (Or.inr (hw _ (List.mem_of_getElem? (i := 16) rfl))) (ty := (.array .byte)) (by decide)
      have F_coder_x119 : Fld Z h118 x119 "java/lang/String" "coder" "B" (.int 0) := D124 (Or.inr (hw _ (List.mem_of_getElem? (i := 17) rfl))) (ty := .byte) (by decide)
      refine s_dup w (hb hby at_118) rfl (pc' := 119) rfl ?_
      refine s_aload w (hb hby at_119) rfl rfl (pc' := 121) rfl ?_
      refine w_strInitP w hw1 (hw _ (List.mem_of_getElem? (i := 2) rfl)) (hw _ (List.mem_of_getElem? (i := 4) rfl)) (hw _ (List.mem_of_getElem? (i := 5) rfl)) (cs := [v2]) (n := 1) A123 F_value_x119 F_coder_x119 (show Arv Z h118 x13 k14 .char 1 (([v2] : List Int32).map Value.int) (.int 0) from (((V21.ext E37).ext E56).ext E120)) SC hz rfl rfl (by decide) (by decide) (by intro c q; simp only [List.mem_cons, List.not_mem_nil, or_false] at q; rcases q with rfl <;> first | exact lv2) (List.mem_of_getElem? (i := 0) rfl) (Or.inr r122) (Nat.le_trans hZ0.1 r122) (hb hby at_121) (by rw [hml]; rfl) (W := 1) (Nat.le_of_eq rfl) (by decide) (by decide) (by decide) (by decide) (pc' := 124) rfl fun T h125 w K126 F127 => ?_
      have E128 := Ext.kp E120 K126 (allS q121 all0)
      refine s_astore w #[.val (.int p0), .val (.int p1), .val (.int p2), .val (.int p3), .val (.int 1), .val (.int v2), .val (.int v3), .val (.int v4), .val (.ref x6), .val (.ref x13), .val (.ref x24), .val (.ref x39), .val (.ref x13), .val (.ref x119), .unset] (hb hby at_124) rfl rfl (pc' := 126) rfl ?_
      refine s_aload w (hb hby at_126) rfl rfl (pc' := 128) rfl ?_
      have latD : ∀ c ∈ ([v2] : List Int32), Lat c := (by intro c q; simp only [List.mem_cons, List.not_mem_nil, or_false] at q; rcases q with rfl <;> first | exact lv2)
      refine w_staticN w hEL (y := (⟨"com/example/minder/minder/http/PdpIdentifier", "ofHost", "(Ljava/lang/String;)Lcom/example/minder/minder/http/PdpIdentifier;"⟩ : MethodName)) (hw _ (List.mem_of_getElem? (i := 22) rfl)) (hw _ (List.mem_of_getElem? (i := 23) rfl)) (hw _ (List.mem_of_getElem? (i := 24) rfl)) (hw _ (List.mem_of_getElem? (i := 25) rfl)) (by decide) (rm_ofh G0 h125 x119 [v2] F127 latD (Nat.le_of_ble_eq_true rfl)) all0 all0 (argsL := [.ref x119]) (rest := []) (lenOf (by decide +kernel : parseMethodDescriptor "(Ljava/lang/String;)Lcom/example/minder/minder/http/PdpIdentifier;" = some ⟨[(.object "java/lang/String")], (some (.object "com/example/minder/minder/http/PdpIdentifier"))⟩) rfl) rfl rfl (hb hby at_128) (by rw [hml]; rfl) (W := 0) (Nat.le_of_eq rfl) (by decide) (by decide) (by decide) (by decide) (pc' := 131) rfl fun u129 N130 T h131 w K132 P133 => ?_
      obtain ⟨rfl, P134⟩ := P133
      obtain ⟨p135, y136, rfl, A137, F138, S139⟩ := P134
      have E140 := Keep.ext0 K132
      have S139 : Str Z h131 y136 [104, 116, 116, 112, 115, 58, 47, 47, v2] := S139
      show Run p e below _ T (mkF m 131 #[.val (.int p0), .val (.int p1), .val (.int p2), .val (.int p3), .val (.int 1), .val (.int v2), .val (.int v3), .val (.int v4), .val (.ref x6), .val (.ref x13), .val (.ref x24), .val (.ref x39), .val (.ref x13), .val (.ref x119), .unset] [.ref p135])
      have latS : ∀ c ∈ ([104, 116, 116, 112, 115, 58, 47, 47, v2] : List Int32), Lat c := (by intro c q; simp only [List.mem_cons, List.not_mem_nil, or_false] at q; rcases q with rfl | rfl | rfl | rfl | rfl | rfl | rfl | rfl | rfl <;> first | exact (show Lat 104 by unfold Lat; decide) | exact (show Lat 116 by unfold Lat; decide) | exact (show Lat 116 by unfold Lat; decide) | exact (show Lat 112 by unfold Lat; decide) | exact (show Lat 115 by unfold Lat; decide) | exact (show Lat 58 by unfold Lat; decide) | exact (show Lat 47 by unfold Lat; decide) | exact (show Lat 47 by unfold Lat; decide) | exact lv2)
      refine w_virtualN w hEL (y := (⟨"com/example/minder/minder/http/PdpIdentifier", "toString", "()Ljava/lang/String;"⟩ : MethodName)) (y' := (⟨"com/example/minder/minder/http/PdpIdentifier", "toString", "()Ljava/lang/String;"⟩ : MethodName)) (C := "com/example/minder/minder/http/PdpIdentifier") (a := p135) (hw _ (List.mem_of_getElem? (i := 146) rfl)) (hw _ (List.mem_of_getElem? (i := 147) rfl)) (hw _ (List.mem_of_getElem? (i := 149) rfl)) (hw _ (List.mem_of_getElem? (i := 149) rfl)) (hw _ (List.mem_of_getElem? (i := 148) rfl)) (hw _ (List.mem_of_getElem? (i := 24) rfl)) (hw _ (List.mem_of_getElem? (i := 150) rfl)) (by decide) A137 (rm_pdt G0 h131 p135 y136 F138) all0 all0 (argsL := []) (rest := []) (lenOf (by decide +kernel : parseMethodDescriptor "()Ljava/lang/String;" = some ⟨[], (some (.object "java/lang/String"))⟩) rfl) rfl rfl (hb hby at_131) (by rw [hml]; rfl) (W := 0) (Nat.le_of_eq rfl) (by decide) (by decide) (by decide) (by decide) (pc' := 134) rfl fun u141 N142 T h143 w K144 P145 => ?_
      obtain ⟨rfl, P146⟩ := P145
      obtain ⟨rfl, rfl⟩ := P146
      show Run p e below _ T (mkF m 134 #[.val (.int p0), .val (.int p1), .val (.int p2), .val (.int p3), .val (.int 1), .val (.int v2), .val (.int v3), .val (.int v4), .val (.ref x6), .val (.ref x13), .val (.ref x24), .val (.ref x39), .val (.ref x13), .val (.ref x119), .unset] [.ref y136])
      refine s_astore w #[.val (.int p0), .val (.int p1), .val (.int p2), .val (.int p3), .val (.int 1), .val (.int v2), .val (.int v3), .val (.int v4), .val (.ref x6), .val (.ref x13), .val (.ref x24), .val (.ref x39), .val (.ref x13), .val (.ref x119), .val (.ref y136)] (hb hby at_134) rfl rfl (pc' := 136) rfl ?_
      refine s_aload w (hb hby at_136) rfl rfl (pc' := 138) rfl ?_
      obtain ⟨XE, Xt, Xkb, Xcd, XN, Xvs, Xq1, Xq2, Xq3, Xq4, Xq5, Xq6⟩ := S139
      refine w_virtB w (y := Len.yN) (y' := Len.yN) (C := ST) (hw _ (List.mem_of_getElem? (i := 151) rfl)) (hw _ (List.mem_of_getElem? (i := 58) rfl)) (hw _ (List.mem_of_getElem? (i := 60) rfl)) (hw _ (List.mem_of_getElem? (i := 60) rfl)) (hw _ (List.mem_of_getElem? (i := 59) rfl)) (by decide) XE (Pv := fun v => v = some (.int (Int32.ofNat ([104, 116, 116, 112, 115, 58, 47, 47, v2]).length))) (as' := #[.ref y136]) (W := 0) (fun vm0 hZ => StrChars.Road.lenW hZ hwL (hw _ (List.mem_of_getElem? (i := 2) rfl)) XE Xq1 Xq2 Xq3 Xq4 Xq5 (SC.ext w.old) hz Xq6 (by decide) (by decide)) (argsL := []) (rest := []) (lenOf (by decide +kernel : parseMethodDescriptor "()I" = some ⟨[], (some .int)⟩) rfl) rfl rfl (hb hby at_138) (by rw [hml]; rfl) (Nat.le_of_eq rfl) (by decide) (by decide) (pc' := 141) rfl fun u147 T w P148 => ?_
      obtain rfl := P148
      show Run p e below _ T (mkF m 141 #[.val (.int p0), .val (.int p1), .val (.int p2), .val (.int p3), .val (.int 1), .val (.int v2), .val (.int v3), .val (.int v4), .val (.ref x6), .val (.ref x13), .val (.ref x24), .val (.ref x39), .val (.ref x13), .val (.ref x119), .val (.ref y136)] [.int (Int32.ofNat ([104, 116, 116, 112, 115, 58, 47, 47, v2]).length)])
      show Run p e below _ T (mkF m 141 #[.val (.int p0), .val (.int p1), .val (.int p2), .val (.int p3), .val (.int 1), .val (.int v2), .val (.int v3), .val (.int v4), .val (.ref x6), .val (.ref x13), .val (.ref x24), .val (.ref x39), .val (.ref x13), .val (.ref x119), .val (.ref y136)] [.int 9])
      refine s_bipush w (hb hby at_141) (v := 8) rfl (pc' := 143) rfl ?_
      refine s_iload w (hb hby at_143) rfl (pc' := 145) rfl ?_
      refine s_iadd w (hb hby at_145) (pc' := 146) rfl ?_
      show Run p e below _ T (mkF m 146 #[.val (.int p0), .val (.int p1), .val (.int p2), .val (.int p3), .val (.int 1), .val (.int v2), .val (.int v3), .val (.int v4), .val (.ref x6), .val (.ref x13), .val (.ref x24), .val (.ref x39), .val (.ref x13), .val (.ref x119), .val (.ref y136)] [.int 9, .int 9])
      refine s_icmp_eq w (hb hby at_146) (by decide) (pc1 := 149) rfl (pc2 := 151) rfl (fun q => absurd q (by decide)) (fun _ => ?_)
      refine s_aload w (hb hby at_151) rfl rfl (pc' := 153) rfl ?_
      refine s_iconst w (hb hby at_153) (v := 0) rfl (pc' := 154) rfl ?_
      obtain ⟨Yt, Yk, Yv, Yc, Ya, Yl⟩ := S139.lat latS
      refine w_virtB w (y := (⟨"java/lang/String", "charAt", "(I)C"⟩ : MethodName)) (y' := (⟨"java/lang/String", "charAt", "(I)C"⟩ : MethodName)) (C := ST) (hw _ (List.mem_of_getElem? (i := 152) rfl)) (hw _ (List.mem_of_getElem? (i := 153) rfl)) (hw _ (List.mem_of_getElem? (i := 155) rfl)) (hw _ (List.mem_of_getElem? (i := 155) rfl)) (hw _ (List.mem_of_getElem? (i := 154) rfl)) (by decide) S139.1 (Pv := fun v => v = some (.int (List.getD [104, 116, 116, 112, 115, 58, 47, 47, v2] 0 0))) (as' := #[.ref y136, .int 0]) (W := 0) (fun vm0 hZ => StrChars.Road.chN hZ hwC (hw _ (List.mem_of_getElem? (i := 2) rfl)) S139.1 Yv Yc Ya (codOfL latS) (fun c q => lat_chr (latS c q)) (SC.ext w.old) hz (SF.ext w.old) hfm Yl (i := 0) (Nat.le_of_ble_eq_true rfl) rfl (by decide) (by decide)) (argsL := [.int 0]) (rest := []) (lenOf (by decide +kernel : parseMethodDescriptor "(I)C" = some ⟨[.int], (some .char)⟩) rfl) rfl rfl (hb hby at_154) (by rw [hml]; rfl) (Nat.le_of_eq rfl) (by decide) (by decide) (pc' := 157) rfl fun u150 T w P151 => ?_
      obtain rfl := P151
      show Run p e below _ T (mkF m 157 #[.val (.int p0), .val (.int p1), .val (.int p2), .val (.int p3), .val (.int 1), .val (.int v2), .val (.int v3), .val (.int v4), .val (.ref x6), .val (.ref x13), .val (.ref x24), .val (.ref x39), .val (.ref x13), .val (.ref x119), .val (.ref y136)] [.int 104])
      refine s_bipush w (hb hby at_157) (v := 104) rfl (pc' := 159) rfl ?_
      refine s_icmp_ne w (hb hby at_159) (by decide) (pc1 := 162) rfl (pc2 := 195) rfl (fun _ => ?_) (fun q => absurd q (by decide))
      refine s_aload w (hb hby at_162) rfl rfl (pc' := 164) rfl ?_
      refine s_iconst w (hb hby at_164) (v := 1) rfl (pc' := 165) rfl ?_
      obtain ⟨Yt, Yk, Yv, Yc, Ya, Yl⟩ := S139.lat latS
      refine w_virtB w (y := (⟨"java/lang/String", "charAt", "(I)C"⟩ : MethodName)) (y' := (⟨"java/lang/String", "charAt", "(I)C"⟩ : MethodName)) (C := ST) (hw _ (List.mem_of_getElem? (i := 152) rfl)) (hw _ (List.mem_of_getElem? (i := 153) rfl)) (hw _ (List.mem_of_getElem? (i := 155) rfl)) (hw _ (List.mem_of_getElem? (i := 155) rfl)) (hw _ (List.mem_of_getElem? (i := 154) rfl)) (by decide) S139.1 (Pv := fun v => v = some (.int (List.getD [104, 116, 116, 112, 115, 58, 47, 47, v2] 1 0))) (as' := #[.ref y136, .int 1]) (W := 0) (fun vm0 hZ => StrChars.Road.chN hZ hwC (hw _ (List.mem_of_getElem? (i := 2) rfl)) S139.1 Yv Yc Ya (codOfL latS) (fun c q => lat_chr (latS c q)) (SC.ext w.old) hz (SF.ext w.old) hfm Yl (i := 1) (Nat.le_of_ble_eq_true rfl) rfl (by decide) (by decide)) (argsL := [.int 1]) (rest := []) (lenOf (by decide +kernel : parseMethodDescriptor "(I)C" = some ⟨[.int], (some .char)⟩) rfl) rfl rfl (hb hby at_165) (by rw [hml]; rfl) (Nat.le_of_eq rfl) (by decide) (by decide) (pc' := 168) rfl fun u153 T w P154 => ?_
      obtain rfl := P154
      show Run p e below _ T (mkF m 168 #[.val (.int p0), .val (.int p1), .val (.int p2), .val (.int p3), .val (.int 1), .val (.int v2), .val (.int v3), .val (.int v4), .val (.ref x6), .val (.ref x13), .val (.ref x24), .val (.ref x39), .val (.ref x13), .val (.ref x119), .val (.ref y136)] [.int 116])
      refine s_bipush w (hb hby at_168) (v := 116) rfl (pc' := 170) rfl ?_
      refine s_icmp_ne w (hb hby at_170) (by decide) (pc1 := 173) rfl (pc2 := 195) rfl (fun _ => ?_) (fun q => absurd q (by decide))
      refine s_aload w (hb hby at_173) rfl rfl (pc' := 175) rfl ?_
      refine s_iconst w (hb hby at_175) (v := 2) rfl (pc' := 176) rfl ?_
      obtain ⟨Yt, Yk, Yv, Yc, Ya, Yl⟩ := S139.lat latS
      refine w_virtB w (y := (⟨"java/lang/String", "charAt", "(I)C"⟩ : MethodName)) (y' := (⟨"java/lang/String", "charAt", "(I)C"⟩ : MethodName)) (C := ST) (hw _ (List.mem_of_getElem? (i := 152) rfl)) (hw _ (List.mem_of_getElem? (i := 153) rfl)) (hw _ (List.mem_of_getElem? (i := 155) rfl)) (hw _ (List.mem_of_getElem? (i := 155) rfl)) (hw _ (List.mem_of_getElem? (i := 154) rfl)) (by decide) S139.1 (Pv := fun v => v = some (.int (List.getD [104, 116, 116, 112, 115, 58, 47, 47, v2] 2 0))) (as' := #[.ref y136, .int 2]) (W := 0) (fun vm0 hZ => StrChars.Road.chN hZ hwC (hw _ (List.mem_of_getElem? (i := 2) rfl)) S139.1 Yv Yc Ya (codOfL latS) (fun c q => lat_chr (latS c q)) (SC.ext w.old) hz (SF.ext w.old) hfm Yl (i := 2) (Nat.le_of_ble_eq_true rfl) rfl (by decide) (by decide)) (argsL := [.int 2]) (rest := []) (lenOf (by decide +kernel : parseMethodDescriptor "(I)C" = some ⟨[.int], (some .char)⟩) rfl) rfl rfl (hb hby at_176) (by rw [hml]; rfl) (Nat.le_of_eq rfl) (by decide) (by decide) (pc' := 179) rfl fun u156 T w P157 => ?_
      obtain rfl := P157
      show Run p e below _ T (mkF m 179 #[.val (.int p0), .val (.int p1), .val (.int p2), .val (.int p3), .val (.int 1), .val (.int v2), .val (.int v3), .val (.int v4), .val (.ref x6), .val (.ref x13), .val (.ref x24), .val (.ref x39), .val (.ref x13), .val (.ref x119), .val (.ref y136)] [.int 116])
      refine s_bipush w (hb hby at_179) (v := 116) rfl (pc' := 181) rfl ?_
      refine s_icmp_ne w (hb hby at_181) (by decide) (pc1 := 184) rfl (pc2 := 195) rfl (fun _ => ?_) (fun q => absurd q (by decide))
      refine s_aload w (hb hby at_184) rfl rfl (pc' := 186) rfl ?_
      refine s_iconst w (hb hby at_186) (v := 3) rfl (pc' := 187) rfl ?_
      obtain ⟨Yt, Yk, Yv, Yc, Ya, Yl⟩ := S139.lat latS
      refine w_virtB w (y := (⟨"java/lang/String", "charAt", "(I)C"⟩ : MethodName)) (y' := (⟨"java/lang/String", "charAt", "(I)C"⟩ : MethodName)) (C := ST) (hw _ (List.mem_of_getElem? (i := 152) rfl)) (hw _ (List.mem_of_getElem? (i := 153) rfl)) (hw _ (List.mem_of_getElem? (i := 155) rfl)) (hw _ (List.mem_of_getElem? (i := 155) rfl)) (hw _ (List.mem_of_getElem? (i := 154) rfl)) (by decide) S139.1 (Pv := fun v => v = some (.int (List.getD [104, 116, 116, 112, 115, 58, 47, 47, v2] 3 0))) (as' := #[.ref y136, .int 3]) (W := 0) (fun vm0 hZ => StrChars.Road.chN hZ hwC (hw _ (List.mem_of_getElem? (i := 2) rfl)) S139.1 Yv Yc Ya (codOfL latS) (fun c q => lat_chr (latS c q)) (SC.ext w.old) hz (SF.ext w.old) hfm Yl (i := 3) (Nat.le_of_ble_eq_true rfl) rfl (by decide) (by decide)) (argsL := [.int 3]) (rest := []) (lenOf (by decide +kernel : parseMethodDescriptor "(I)C" = some ⟨[.int], (some .char)⟩) rfl) rfl rfl (hb hby at_187) (by rw [hml]; rfl) (Nat.le_of_eq rfl) (by decide) (by decide) (pc' := 190) rfl fun u159 T w P160 => ?_
      obtain rfl := P160
      show Run p e below _ T (mkF m 190 #[.val (.int p0), .val (.int p1), .val (.int p2), .val (.int p3), .val (.int 1), .val (.int v2), .val (.int v3), .val (.int v4), .val (.ref x6), .val (.ref x13), .val (.ref x24), .val (.ref x39), .val (.ref x13), .val (.ref x119), .val (.ref y136)] [.int 112])
      refine s_bipush w (hb hby at_190) (v := 112) rfl (pc' := 192) rfl ?_
      refine s_icmp_eq w (hb hby at_192) (by decide) (pc1 := 195) rfl (pc2 := 197) rfl (fun q => absurd q (by decide)) (fun _ => ?_)
      refine s_aload w (hb hby at_197) rfl rfl (pc' := 199) rfl ?_
      refine s_iconst w (hb hby at_199) (v := 4) rfl (pc' := 200) rfl ?_
      obtain ⟨Yt, Yk, Yv, Yc, Ya, Yl⟩ := S139.lat latS
      refine w_virtB w (y := (⟨"java/lang/String", "charAt", "(I)C"⟩ : MethodName)) (y' := (⟨"java/lang/String", "charAt", "(I)C"⟩ : MethodName)) (C := ST) (hw _ (List.mem_of_getElem? (i := 152) rfl)) (hw _ (List.mem_of_getElem? (i := 153) rfl)) (hw _ (List.mem_of_getElem? (i := 155) rfl)) (hw _ (List.mem_of_getElem? (i := 155) rfl)) (hw _ (List.mem_of_getElem? (i := 154) rfl)) (by decide) S139.1 (Pv := fun v => v = some (.int (List.getD [104, 116, 116, 112, 115, 58, 47, 47, v2] 4 0))) (as' := #[.ref y136, .int 4]) (W := 0) (fun vm0 hZ => StrChars.Road.chN hZ hwC (hw _ (List.mem_of_getElem? (i := 2) rfl)) S139.1 Yv Yc Ya (codOfL latS) (fun c q => lat_chr (latS c q)) (SC.ext w.old) hz (SF.ext w.old) hfm Yl (i := 4) (Nat.le_of_ble_eq_true rfl) rfl (by decide) (by decide)) (argsL := [.int 4]) (rest := []) (lenOf (by decide +kernel : parseMethodDescriptor "(I)C" = some ⟨[.int], (some .char)⟩) rfl) rfl rfl (hb hby at_200) (by rw [hml]; rfl) (Nat.le_of_eq rfl) (by decide) (by decide) (pc' := 203) rfl fun u162 T w P163 => ?_
      obtain rfl := P163
      show Run p e below _ T (mkF m 203 #[.val (.int p0), .val (.int p1), .val (.int p2), .val (.int p3), .val (.int 1), .val (.int v2), .val (.int v3), .val (.int v4), .val (.ref x6), .val (.ref x13), .val (.ref x24), .val (.ref x39), .val (.ref x13), .val (.ref x119), .val (.ref y136)] [.int 115])
      refine s_bipush w (hb hby at_203) (v := 115) rfl (pc' := 205) rfl ?_
      refine s_icmp_ne w (hb hby at_205) (by decide) (pc1 := 208) rfl (pc2 := 243) rfl (fun _ => ?_) (fun q => absurd q (by decide))
      refine s_aload w (hb hby at_208) rfl rfl (pc' := 210) rfl ?_
      refine s_iconst w (hb hby at_210) (v := 5) rfl (pc' := 211) rfl ?_
      obtain ⟨Yt, Yk, Yv, Yc, Ya, Yl⟩ := S139.lat latS
      refine w_virtB w (y := (⟨"java/lang/String", "charAt", "(I)C"⟩ : MethodName)) (y' := (⟨"java/lang/String", "charAt", "(I)C"⟩ : MethodName)) (C := ST) (hw _ (List.mem_of_getElem? (i := 152) rfl)) (hw _ (List.mem_of_getElem? (i := 153) rfl)) (hw _ (List.mem_of_getElem? (i := 155) rfl)) (hw _ (List.mem_of_getElem? (i := 155) rfl)) (hw _ (List.mem_of_getElem? (i := 154) rfl)) (by decide) S139.1 (Pv := fun v => v = some (.int (List.getD [104, 116, 116, 112, 115, 58, 47, 47, v2] 5 0))) (as' := #[.ref y136, .int 5]) (W := 0) (fun vm0 hZ => StrChars.Road.chN hZ hwC (hw _ (List.mem_of_getElem? (i := 2) rfl)) S139.1 Yv Yc Ya (codOfL latS) (fun c q => lat_chr (latS c q)) (SC.ext w.old) hz (SF.ext w.old) hfm Yl (i := 5) (Nat.le_of_ble_eq_true rfl) rfl (by decide) (by decide)) (argsL := [.int 5]) (rest := []) (lenOf (by decide +kernel : parseMethodDescriptor "(I)C" = some ⟨[.int], (some .char)⟩) rfl) rfl rfl (hb hby at_211) (by rw [hml]; rfl) (Nat.le_of_eq rfl) (by decide) (by decide) (pc' := 214) rfl fun u165 T w P166 => ?_
      obtain rfl := P166
      show Run p e below _ T (mkF m 214 #[.val (.int p0), .val (.int p1), .val (.int p2), .val (.int p3), .val (.int 1), .val (.int v2), .val (.int v3), .val (.int v4), .val (.ref x6), .val (.ref x13), .val (.ref x24), .val (.ref x39), .val (.ref x13), .val (.ref x119), .val (.ref y136)] [.int 58])
      refine s_bipush w (hb hby at_214) (v := 58) rfl (pc' := 216) rfl ?_
      refine s_icmp_ne w (hb hby at_216) (by decide) (pc1 := 219) rfl (pc2 := 243) rfl (fun _ => ?_) (fun q => absurd q (by decide))
      refine s_aload w (hb hby at_219) rfl rfl (pc' := 221) rfl ?_
      refine s_bipush w (hb hby at_221) (v := 6) rfl (pc' := 223) rfl ?_
      obtain ⟨Yt, Yk, Yv, Yc, Ya, Yl⟩ := S139.lat latS
      refine w_virtB w (y := (⟨"java/lang/String", "charAt", "(I)C"⟩ : MethodName)) (y' := (⟨"java/lang/String", "charAt", "(I)C"⟩ : MethodName)) (C := ST) (hw _ (List.mem_of_getElem? (i := 152) rfl)) (hw _ (List.mem_of_getElem? (i := 153) rfl)) (hw _ (List.mem_of_getElem? (i := 155) rfl)) (hw _ (List.mem_of_getElem? (i := 155) rfl)) (hw _ (List.mem_of_getElem? (i := 154) rfl)) (by decide) S139.1 (Pv := fun v => v = some (.int (List.getD [104, 116, 116, 112, 115, 58, 47, 47, v2] 6 0))) (as' := #[.ref y136, .int 6]) (W := 0) (fun vm0 hZ => StrChars.Road.chN hZ hwC (hw _ (List.mem_of_getElem? (i := 2) rfl)) S139.1 Yv Yc Ya (codOfL latS) (fun c q => lat_chr (latS c q)) (SC.ext w.old) hz (SF.ext w.old) hfm Yl (i := 6) (Nat.le_of_ble_eq_true rfl) rfl (by decide) (by decide)) (argsL := [.int 6]) (rest := []) (lenOf (by decide +kernel : parseMethodDescriptor "(I)C" = some ⟨[.int], (some .char)⟩) rfl) rfl rfl (hb hby at_223) (by rw [hml]; rfl) (Nat.le_of_eq rfl) (by decide) (by decide) (pc' := 226) rfl fun u168 T w P169 => ?_
      obtain rfl := P169
      show Run p e below _ T (mkF m 226 #[.val (.int p0), .val (.int p1), .val (.int p2), .val (.int p3), .val (.int 1), .val (.int v2), .val (.int v3), .val (.int v4), .val (.ref x6), .val (.ref x13), .val (.ref x24), .val (.ref x39), .val (.ref x13), .val (.ref x119), .val (.ref y136)] [.int 47])
      refine s_bipush w (hb hby at_226) (v := 47) rfl (pc' := 228) rfl ?_
      refine s_icmp_ne w (hb hby at_228) (by decide) (pc1 := 231) rfl (pc2 := 243) rfl (fun _ => ?_) (fun q => absurd q (by decide))
      refine s_aload w (hb hby at_231) rfl rfl (pc' := 233) rfl ?_
      refine s_bipush w (hb hby at_233) (v := 7) rfl (pc' := 235) rfl ?_
      obtain ⟨Yt, Yk, Yv, Yc, Ya, Yl⟩ := S139.lat latS
      refine w_virtB w (y := (⟨"java/lang/String", "charAt", "(I)C"⟩ : MethodName)) (y' := (⟨"java/lang/String", "charAt", "(I)C"⟩ : MethodName)) (C := ST) (hw _ (List.mem_of_getElem? (i := 152) rfl)) (hw _ (List.mem_of_getElem? (i := 153) rfl)) (hw _ (List.mem_of_getElem? (i := 155) rfl)) (hw _ (List.mem_of_getElem? (i := 155) rfl)) (hw _ (List.mem_of_getElem? (i := 154) rfl)) (by decide) S139.1 (Pv := fun v => v = some (.int (List.getD [104, 116, 116, 112, 115, 58, 47, 47, v2] 7 0))) (as' := #[.ref y136, .int 7]) (W := 0) (fun vm0 hZ => StrChars.Road.chN hZ hwC (hw _ (List.mem_of_getElem? (i := 2) rfl)) S139.1 Yv Yc Ya (codOfL latS) (fun c q => lat_chr (latS c q)) (SC.ext w.old) hz (SF.ext w.old) hfm Yl (i := 7) (Nat.le_of_ble_eq_true rfl) rfl (by decide) (by decide)) (argsL := [.int 7]) (rest := []) (lenOf (by decide +kernel : parseMethodDescriptor "(I)C" = some ⟨[.int], (some .char)⟩) rfl) rfl rfl (hb hby at_235) (by rw [hml]; rfl) (Nat.le_of_eq rfl) (by decide) (by decide) (pc' := 238) rfl fun u171 T w P172 => ?_
      obtain rfl := P172
      show Run p e below _ T (mkF m 238 #[.val (.int p0), .val (.int p1), .val (.int p2), .val (.int p3), .val (.int 1), .val (.int v2), .val (.int v3), .val (.int v4), .val (.ref x6), .val (.ref x13), .val (.ref x24), .val (.ref x39), .val (.ref x13), .val (.ref x119), .val (.ref y136)] [.int 47])
      refine s_bipush w (hb hby at_238) (v := 47) rfl (pc' := 240) rfl ?_
      refine s_icmp_eq w (hb hby at_240) (by decide) (pc1 := 243) rfl (pc2 := 245) rfl (fun q => absurd q (by decide)) (fun _ => ?_)
      refine s_iload w (hb hby at_245) rfl (pc' := 247) rfl ?_
      refine s_iconst w (hb hby at_247) (v := 1) rfl (pc' := 248) rfl ?_
      refine s_icmp_lt w (hb hby at_248) (by decide) (pc1 := 251) rfl (pc2 := 265) rfl (fun _ => ?_) (fun q => absurd q (by decide))
      refine s_aload w (hb hby at_251) rfl rfl (pc' := 253) rfl ?_
      refine s_bipush w (hb hby at_253) (v := 8) rfl (pc' := 255) rfl ?_
      obtain ⟨Yt, Yk, Yv, Yc, Ya, Yl⟩ := S139.lat latS
      refine w_virtB w (y := (⟨"java/lang/String", "charAt", "(I)C"⟩ : MethodName)) (y' := (⟨"java/lang/String", "charAt", "(I)C"⟩ : MethodName)) (C := ST) (hw _ (List.mem_of_getElem? (i := 152) rfl)) (hw _ (List.mem_of_getElem? (i := 153) rfl)) (hw _ (List.mem_of_getElem? (i := 155) rfl)) (hw _ (List.mem_of_getElem? (i := 155) rfl)) (hw _ (List.mem_of_getElem? (i := 154) rfl)) (by decide) S139.1 (Pv := fun v => v = some (.int (List.getD [104, 116, 116, 112, 115, 58, 47, 47, v2] 8 0))) (as' := #[.ref y136, .int 8]) (W := 0) (fun vm0 hZ => StrChars.Road.chN hZ hwC (hw _ (List.mem_of_getElem? (i := 2) rfl)) S139.1 Yv Yc Ya (codOfL latS) (fun c q => lat_chr (latS c q)) (SC.ext w.old) hz (SF.ext w.old) hfm Yl (i := 8) (Nat.le_of_ble_eq_true rfl) rfl (by decide) (by decide)) (argsL := [.int 8]) (rest := []) (lenOf (by decide +kernel : parseMethodDescriptor "(I)C" = some ⟨[.int], (some .char)⟩) rfl) rfl rfl (hb hby at_255) (by rw [hml]; rfl) (Nat.le_of_eq rfl) (by decide) (by decide) (pc' := 258) rfl fun u175 T w P176 => ?_
      obtain rfl := P176
      show Run p e below _ T (mkF m 258 #[.val (.int p0), .val (.int p1), .val (.int p2), .val (.int p3), .val (.int 1), .val (.int v2), .val (.int v3), .val (.int v4), .val (.ref x6), .val (.ref x13), .val (.ref x24), .val (.ref x39), .val (.ref x13), .val (.ref x119), .val (.ref y136)] [.int v2])
      refine s_iload w (hb hby at_258) rfl (pc' := 260) rfl ?_
      refine s_icmp_eq w (hb hby at_260) (by decide) (pc1 := 263) rfl (pc2 := 265) rfl (fun ct177 => ?_) (fun ct177 => ?_)
      · -- ¬ (v2 = v2)
        refine s_iconst w (hb hby at_263) (v := 0) rfl (pc' := 264) rfl ?_
        exact absurd rfl ct177
      · -- v2 = v2
        refine s_iload w (hb hby at_265) rfl (pc' := 267) rfl ?_
        refine s_iconst w (hb hby at_267) (v := 2) rfl (pc' := 268) rfl ?_
        refine s_icmp_lt w (hb hby at_268) (by decide) (pc1 := 271) rfl (pc2 := 285) rfl (fun q => absurd q (by decide)) (fun _ => ?_)
        refine s_iload w (hb hby at_285) rfl (pc' := 287) rfl ?_
        refine s_iconst w (hb hby at_287) (v := 3) rfl (pc' := 288) rfl ?_
        refine s_icmp_lt w (hb hby at_288) (by decide) (pc1 := 291) rfl (pc2 := 305) rfl (fun q => absurd q (by decide)) (fun _ => ?_)
        refine s_iconst w (hb hby at_305) (v := 1) rfl (pc' := 306) rfl ?_
        exact w_ireturn w hEL hs hlk hret rfl (Or.inr (Or.inl rfl)) (hb hby at_306) (by decide) (by decide) rfl
    · skip
      refine s_iload w (hb hby at_100) rfl (pc' := 102) rfl ?_
      refine s_iconst w (hb hby at_102) (v := 2) rfl (pc' := 103) rfl ?_
      refine s_icmp_ne w (hb hby at_103) (by decide) (pc1 := 106) rfl (pc2 := 111) rfl (fun ct180 => ?_) (fun ct180 => ?_)
      · subst ct180
        refine s_aload w (hb hby at_106) rfl rfl (pc' := 108) rfl ?_
        refine s_goto w (hb hby at_108) (by decide) (pc' := 113) rfl ?_
        refine s_astore w #[.val (.int p0), .val (.int p1), .val (.int p2), .val (.int p3), .val (.int 2), .val (.int v2), .val (.int v3), .val (.int v4), .val (.ref x6), .val (.ref x13), .val (.ref x24), .val (.ref x39), .val (.ref x24), .unset, .unset] (hb hby at_113) rfl rfl (pc' := 115) rfl ?_
        refine w_new w (hw _ (List.mem_of_getElem? (i := 1) rfl)) (hw _ (List.mem_of_getElem? (i := 2) rfl)) (hw _ (List.mem_of_getElem? (i := 3) rfl)) (hb hby at_115) (pc' := 118) rfl (by decide) (by decide) fun T h181 x182 w E183 q184 r185 A186 D187 => ?_
        have F_value_x182 : Fld Z h181 x182 "java/lang/String" "value" "[B" (.null) := D187 (Or.inr (hw _ (List.mem_of_getElem? (i := 16) rfl))) (ty := (.array .byte)) (by decide)
        have F_coder_x182 : Fld Z h181 x182 "java/lang/String" "coder" "B" (.int 0) := D187 (Or.inr (hw _ (List.mem_of_getElem? (i := 17) rfl))) (ty := .byte) (by decide)
        refine s_dup w (hb hby at_118) rfl (pc' := 119) rfl ?_
        refine s_aload w (hb hby at_119) rfl rfl (pc' := 121) rfl ?_
        refine w_strInitP w hw1 (hw _ (List.mem_of_getElem? (i := 2) rfl)) (hw _ (List.mem_of_getElem? (i := 4) rfl)) (hw _ (List.mem_of_getElem? (i := 5) rfl)) (cs := [v2, v3]) (n := 2) A186 F_value_x182 F_coder_x182 (show Arv Z h181 x24 k25 .char 2 (([v2, v3] : List Int32).map Value.int) (.int 0) from ((V36.ext E56).ext E183)) SC hz rfl rfl (by decide) (by decide) (by intro c q; simp only [List.mem_cons, List.not_mem_nil, or_false] at q; rcases q with rfl | rfl <;> first | exact lv2 | exact lv3) (List.mem_of_getElem? (i := 0) rfl) (Or.inr r185) (Nat.le_trans hZ0.1 r185) (hb hby at_121) (by rw [hml]; rfl) (W := 1) (Nat.le_of_eq rfl) (by decide) (by decide) (by decide) (by decide) (pc' := 124) rfl fun T h188 w K189 F190 => ?_
        have E191 := Ext.kp E183 K189 (allS q184 all0)
        refine s_astore w #[.val (.int p0), .val (.int p1), .val (.int p2), .val (.int p3), .val (.int 2), .val (.int v2), .val (.int v3), .val (.int v4), .val (.ref x6), .val (.ref x13), .val (.ref x24), .val (.ref x39), .val (.ref x24), .val (.ref x182), .unset] (hb hby at_124) rfl rfl (pc' := 126) rfl ?_
        refine s_aload w (hb hby at_126) rfl rfl (pc' := 128) rfl ?_
        have latD : ∀ c ∈ ([v2, v3] : List Int32), Lat c := (by intro c q; simp only [List.mem_cons, List.not_mem_nil, or_false] at q; rcases q with rfl | rfl <;> first | exact lv2 | exact lv3)
        refine w_staticN w hEL (y := (⟨"com/example/minder/minder/http/PdpIdentifier", "ofHost", "(Ljava/lang/String;)Lcom/example/minder/minder/http/PdpIdentifier;"⟩ : MethodName)) (hw _ (List.mem_of_getElem? (i := 22) rfl)) (hw _ (List.mem_of_getElem? (i := 23) rfl)) (hw _ (List.mem_of_getElem? (i := 24) rfl)) (hw _ (List.mem_of_getElem? (i := 25) rfl)) (by decide) (rm_ofh G0 h188 x182 [v2, v3] F190 latD (Nat.le_of_ble_eq_true rfl)) all0 all0 (argsL := [.ref x182]) (rest := []) (lenOf (by decide +kernel : parseMethodDescriptor "(Ljava/lang/String;)Lcom/example/minder/minder/http/PdpIdentifier;" = some ⟨[(.object "java/lang/String")], (some (.object "com/example/minder/minder/http/PdpIdentifier"))⟩) rfl) rfl rfl (hb hby at_128) (by rw [hml]; rfl) (W := 0) (Nat.le_of_eq rfl) (by decide) (by decide) (by decide) (by decide) (pc' := 131) rfl fun u192 N193 T h194 w K195 P196 => ?_
        obtain ⟨rfl, P197⟩ := P196
        obtain ⟨p198, y199, rfl, A200, F201, S202⟩ := P197
        have E203 := Keep.ext0 K195
        have S202 : Str Z h194 y199 [104, 116, 116, 112, 115, 58, 47, 47, v2, v3] := S202
        show Run p e below _ T (mkF m 131 #[.val (.int p0), .val (.int p1), .val (.int p2), .val (.int p3), .val (.int 2), .val (.int v2), .val (.int v3), .val (.int v4), .val (.ref x6), .val (.ref x13), .val (.ref x24), .val (.ref x39), .val (.ref x24), .val (.ref x182), .unset] [.ref p198])
        have latS : ∀ c ∈ ([104, 116, 116, 112, 115, 58, 47, 47, v2, v3] : List Int32), Lat c := (by intro c q; simp only [List.mem_cons, List.not_mem_nil, or_false] at q; rcases q with rfl | rfl | rfl | rfl | rfl | rfl | rfl | rfl | rfl | rfl <;> first | exact (show Lat 104 by unfold Lat; decide) | exact (show Lat 116 by unfold Lat; decide) | exact (show Lat 116 by unfold Lat; decide) | exact (show Lat 112 by unfold Lat; decide) | exact (show Lat 115 by unfold Lat; decide) | exact (show Lat 58 by unfold Lat; decide) | exact (show Lat 47 by unfold Lat; decide) | exact (show Lat 47 by unfold Lat; decide) | exact lv2 | exact lv3)
        refine w_virtualN w hEL (y := (⟨"com/example/minder/minder/http/PdpIdentifier", "toString", "()Ljava/lang/String;"⟩ : MethodName)) (y' := (⟨"com/example/minder/minder/http/PdpIdentifier", "toString", "()Ljava/lang/String;"⟩ : MethodName)) (C := "com/example/minder/minder/http/PdpIdentifier") (a := p198) (hw _ (List.mem_of_getElem? (i := 146) rfl)) (hw _ (List.mem_of_getElem? (i := 147) rfl)) (hw _ (List.mem_of_getElem? (i := 149) rfl)) (hw _ (List.mem_of_getElem? (i := 149) rfl)) (hw _ (List.mem_of_getElem? (i := 148) rfl)) (hw _ (List.mem_of_getElem? (i := 24) rfl)) (hw _ (List.mem_of_getElem? (i := 150) rfl)) (by decide) A200 (rm_pdt G0 h194 p198 y199 F201) all0 all0 (argsL := []) (rest := []) (lenOf (by decide +kernel : parseMethodDescriptor "()Ljava/lang/String;" = some ⟨[], (some (.object "java/lang/String"))⟩) rfl) rfl rfl (hb hby at_131) (by rw [hml]; rfl) (W := 0) (Nat.le_of_eq rfl) (by decide) (by decide) (by decide) (by decide) (pc' := 134) rfl fun u204 N205 T h206 w K207 P208 => ?_
        obtain ⟨rfl, P209⟩ := P208
        obtain ⟨rfl, rfl⟩ := P209
        show Run p e below _ T (mkF m 134 #[.val (.int p0), .val (.int p1), .val (.int p2), .val (.int p3), .val (.int 2), .val (.int v2), .val (.int v3), .val (.int v4), .val (.ref x6), .val (.ref x13), .val (.ref x24), .val (.ref x39), .val (.ref x24), .val (.ref x182), .unset] [.ref y199])
        refine s_astore w #[.val (.int p0), .val (.int p1), .val (.int p2), .val (.int p3), .val (.int 2), .val (.int v2), .val (.int v3), .val (.int v4), .val (.ref x6), .val (.ref x13), .val (.ref x24), .val (.ref x39), .val (.ref x24), .val (.ref x182), .val (.ref y199)] (hb hby at_134) rfl rfl (pc' := 136) rfl ?_
        refine s_aload w (hb hby at_136) rfl rfl (pc' := 138) rfl ?_
        obtain ⟨XE, Xt, Xkb, Xcd, XN, Xvs, Xq1, Xq2, Xq3, Xq4, Xq5, Xq6⟩ := S202
        refine w_virtB w (y := Len.yN) (y' := Len.yN) (C := ST) (hw _ (List.mem_of_getElem? (i := 151) rfl)) (hw _ (List.mem_of_getElem? (i := 58) rfl)) (hw _ (List.mem_of_getElem? (i := 60) rfl)) (hw _ (List.mem_of_getElem? (i := 60) rfl)) (hw _ (List.mem_of_getElem? (i := 59) rfl)) (by decide) XE (Pv := fun v => v = some (.int (Int32.ofNat ([104, 116, 116, 112, 115, 58, 47, 47, v2, v3]).length))) (as' := #[.ref y199]) (W := 0) (fun vm0 hZ => StrChars.Road.lenW hZ hwL (hw _ (List.mem_of_getElem? (i := 2) rfl)) XE Xq1 Xq2 Xq3 Xq4 Xq5 (SC.ext w.old) hz Xq6 (by decide) (by decide)) (argsL := []) (rest := []) (lenOf (by decide +kernel : parseMethodDescriptor "()I" = some ⟨[], (some .int)⟩) rfl) rfl rfl (hb hby at_138) (by rw [hml]; rfl) (Nat.le_of_eq rfl) (by decide) (by decide) (pc' := 141) rfl fun u210 T w P211 => ?_
        obtain rfl := P211
        show Run p e below _ T (mkF m 141 #[.val (.int p0), .val (.int p1), .val (.int p2), .val (.int p3), .val (.int 2), .val (.int v2), .val (.int v3), .val (.int v4), .val (.ref x6), .val (.ref x13), .val (.ref x24), .val (.ref x39), .val (.ref x24), .val (.ref x182), .val (.ref y199)] [.int (Int32.ofNat ([104, 116, 116, 112, 115, 58, 47, 47, v2, v3]).length)])
        show Run p e below _ T (mkF m 141 #[.val (.int p0), .val (.int p1), .val (.int p2), .val (.int p3), .val (.int 2), .val (.int v2), .val (.int v3), .val (.int v4), .val (.ref x6), .val (.ref x13), .val (.ref x24), .val (.ref x39), .val (.ref x24), .val (.ref x182), .val (.ref y199)] [.int 10])
        refine s_bipush w (hb hby at_141) (v := 8) rfl (pc' := 143) rfl ?_
        refine s_iload w (hb hby at_143) rfl (pc' := 145) rfl ?_
        refine s_iadd w (hb hby at_145) (pc' := 146) rfl ?_
        show Run p e below _ T (mkF m 146 #[.val (.int p0), .val (.int p1), .val (.int p2), .val (.int p3), .val (.int 2), .val (.int v2), .val (.int v3), .val (.int v4), .val (.ref x6), .val (.ref x13), .val (.ref x24), .val (.ref x39), .val (.ref x24), .val (.ref x182), .val (.ref y199)] [.int 10, .int 10])
        refine s_icmp_eq w (hb hby at_146) (by decide) (pc1 := 149) rfl (pc2 := 151) rfl (fun q => absurd q (by decide)) (fun _ => ?_)
        refine s_aload w (hb hby at_151) rfl rfl (pc' := 153) rfl ?_
        refine s_iconst w (hb hby at_153) (v := 0) rfl (pc' := 154) rfl ?_
        obtain ⟨Yt, Yk, Yv, Yc, Ya, Yl⟩ := S202.lat latS
        refine w_virtB w (y := (⟨"java/lang/String", "charAt", "(I)C"⟩ : MethodName)) (y' := (⟨"java/lang/String", "charAt", "(I)C"⟩ : MethodName)) (C := ST) (hw _ (List.mem_of_getElem? (i := 152) rfl)) (hw _ (List.mem_of_getElem? (i := 153) rfl)) (hw _ (List.mem_of_getElem? (i := 155) rfl)) (hw _ (List.mem_of_getElem? (i := 155) rfl)) (hw _ (List.mem_of_getElem? (i := 154) rfl)) (by decide) S202.1 (Pv := fun v => v = some (.int (List.getD [104, 116, 116, 112, 115, 58, 47, 47, v2, v3] 0 0))) (as' := #[.ref y199, .int 0]) (W := 0) (fun vm0 hZ => StrChars.Road.chN hZ hwC (hw _ (List.mem_of_getElem? (i := 2) rfl)) S202.1 Yv Yc Ya (codOfL latS) (fun c q => lat_chr (latS c q)) (SC.ext w.old) hz (SF.ext w.old) hfm Yl (i := 0) (Nat.le_of_ble_eq_true rfl) rfl (by decide) (by decide)) (argsL := [.int 0]) (rest := []) (lenOf (by decide +kernel : parseMethodDescriptor "(I)C" = some ⟨[.int], (some .char)⟩) rfl) rfl rfl (hb hby at_154) (by rw [hml]; rfl) (Nat.le_of_eq rfl) (by decide) (by decide) (pc' := 157) rfl fun u213 T w P214 => ?_
        obtain rfl := P214
        show Run p e below _ T (mkF m 157 #[.val (.int p0), .val (.int p1), .val (.int p2), .val (.int p3), .val (.int 2), .val (.int v2), .val (.int v3), .val (.int v4), .val (.ref x6), .val (.ref x13), .val (.ref x24), .val (.ref x39), .val (.ref x24), .val (.ref x182), .val (.ref y199)] [.int 104])
        refine s_bipush w (hb hby at_157) (v := 104) rfl (pc' := 159) rfl ?_
        refine s_icmp_ne w (hb hby at_159) (by decide) (pc1 := 162) rfl (pc2 := 195) rfl (fun _ => ?_) (fun q => absurd q (by decide))
        refine s_aload w (hb hby at_162) rfl rfl (pc' := 164) rfl ?_
        refine s_iconst w (hb hby at_164) (v := 1) rfl (pc' := 165) rfl ?_
        obtain ⟨Yt, Yk, Yv, Yc, Ya, Yl⟩ := S202.lat latS
        refine w_virtB w (y := (⟨"java/lang/String", "charAt", "(I)C"⟩ : MethodName)) (y' := (⟨"java/lang/String", "charAt", "(I)C"⟩ : MethodName)) (C := ST) (hw _ (List.mem_of_getElem? (i := 152) rfl)) (hw _ (List.mem_of_getElem? (i := 153) rfl)) (hw _ (List.mem_of_getElem? (i := 155) rfl)) (hw _ (List.mem_of_getElem? (i := 155) rfl)) (hw _ (List.mem_of_getElem? (i := 154) rfl)) (by decide) S202.1 (Pv := fun v => v = some (.int (List.getD [104, 116, 116, 112, 115, 58, 47, 47, v2, v3] 1 0))) (as' := #[.ref y199, .int 1]) (W := 0) (fun vm0 hZ => StrChars.Road.chN hZ hwC (hw _ (List.mem_of_getElem? (i := 2) rfl)) S202.1 Yv Yc Ya (codOfL latS) (fun c q => lat_chr (latS c q)) (SC.ext w.old) hz (SF.ext w.old) hfm Yl (i := 1) (Nat.le_of_ble_eq_true rfl) rfl (by decide) (by decide)) (argsL := [.int 1]) (rest := []) (lenOf (by decide +kernel : parseMethodDescriptor "(I)C" = some ⟨[.int], (some .char)⟩) rfl) rfl rfl (hb hby at_165) (by rw [hml]; rfl) (Nat.le_of_eq rfl) (by decide) (by decide) (pc' := 168) rfl fun u216 T w P217 => ?_
        obtain rfl := P217
        show Run p e below _ T (mkF m 168 #[.val (.int p0), .val (.int p1), .val (.int p2), .val (.int p3), .val (.int 2), .val (.int v2), .val (.int v3), .val (.int v4), .val (.ref x6), .val (.ref x13), .val (.ref x24), .val (.ref x39), .val (.ref x24), .val (.ref x182), .val (.ref y199)] [.int 116])
        refine s_bipush w (hb hby at_168) (v := 116) rfl (pc' := 170) rfl ?_
        refine s_icmp_ne w (hb hby at_170) (by decide) (pc1 := 173) rfl (pc2 := 195) rfl (fun _ => ?_) (fun q => absurd q (by decide))
        refine s_aload w (hb hby at_173) rfl rfl (pc' := 175) rfl ?_
        refine s_iconst w (hb hby at_175) (v := 2) rfl (pc' := 176) rfl ?_
        obtain ⟨Yt, Yk, Yv, Yc, Ya, Yl⟩ := S202.lat latS
        refine w_virtB w (y := (⟨"java/lang/String", "charAt", "(I)C"⟩ : MethodName)) (y' := (⟨"java/lang/String", "charAt", "(I)C"⟩ : MethodName)) (C := ST) (hw _ (List.mem_of_getElem? (i := 152) rfl)) (hw _ (List.mem_of_getElem? (i := 153) rfl)) (hw _ (List.mem_of_getElem? (i := 155) rfl)) (hw _ (List.mem_of_getElem? (i := 155) rfl)) (hw _ (List.mem_of_getElem? (i := 154) rfl)) (by decide) S202.1 (Pv := fun v => v = some (.int (List.getD [104, 116, 116, 112, 115, 58, 47, 47, v2, v3] 2 0))) (as' := #[.ref y199, .int 2]) (W := 0) (fun vm0 hZ => StrChars.Road.chN hZ hwC (hw _ (List.mem_of_getElem? (i := 2) rfl)) S202.1 Yv Yc Ya (codOfL latS) (fun c q => lat_chr (latS c q)) (SC.ext w.old) hz (SF.ext w.old) hfm Yl (i := 2) (Nat.le_of_ble_eq_true rfl) rfl (by decide) (by decide)) (argsL := [.int 2]) (rest := []) (lenOf (by decide +kernel : parseMethodDescriptor "(I)C" = some ⟨[.int], (some .char)⟩) rfl) rfl rfl (hb hby at_176) (by rw [hml]; rfl) (Nat.le_of_eq rfl) (by decide) (by decide) (pc' := 179) rfl fun u219 T w P220 => ?_
        obtain rfl := P220
        show Run p e below _ T (mkF m 179 #[.val (.int p0), .val (.int p1), .val (.int p2), .val (.int p3), .val (.int 2), .val (.int v2), .val (.int v3), .val (.int v4), .val (.ref x6), .val (.ref x13), .val (.ref x24), .val (.ref x39), .val (.ref x24), .val (.ref x182), .val (.ref y199)] [.int 116])
        refine s_bipush w (hb hby at_179) (v := 116) rfl (pc' := 181) rfl ?_
        refine s_icmp_ne w (hb hby at_181) (by decide) (pc1 := 184) rfl (pc2 := 195) rfl (fun _ => ?_) (fun q => absurd q (by decide))
        refine s_aload w (hb hby at_184) rfl rfl (pc' := 186) rfl ?_
        refine s_iconst w (hb hby at_186) (v := 3) rfl (pc' := 187) rfl ?_
        obtain ⟨Yt, Yk, Yv, Yc, Ya, Yl⟩ := S202.lat latS
        refine w_virtB w (y := (⟨"java/lang/String", "charAt", "(I)C"⟩ : MethodName)) (y' := (⟨"java/lang/String", "charAt", "(I)C"⟩ : MethodName)) (C := ST) (hw _ (List.mem_of_getElem? (i := 152) rfl)) (hw _ (List.mem_of_getElem? (i := 153) rfl)) (hw _ (List.mem_of_getElem? (i := 155) rfl)) (hw _ (List.mem_of_getElem? (i := 155) rfl)) (hw _ (List.mem_of_getElem? (i := 154) rfl)) (by decide) S202.1 (Pv := fun v => v = some (.int (List.getD [104, 116, 116, 112, 115, 58, 47, 47, v2, v3] 3 0))) (as' := #[.ref y199, .int 3]) (W := 0) (fun vm0 hZ => StrChars.Road.chN hZ hwC (hw _ (List.mem_of_getElem? (i := 2) rfl)) S202.1 Yv Yc Ya (codOfL latS) (fun c q => lat_chr (latS c q)) (SC.ext w.old) hz (SF.ext w.old) hfm Yl (i := 3) (Nat.le_of_ble_eq_true rfl) rfl (by decide) (by decide)) (argsL := [.int 3]) (rest := []) (lenOf (by decide +kernel : parseMethodDescriptor "(I)C" = some ⟨[.int], (some .char)⟩) rfl) rfl rfl (hb hby at_187) (by rw [hml]; rfl) (Nat.le_of_eq rfl) (by decide) (by decide) (pc' := 190) rfl fun u222 T w P223 => ?_
        obtain rfl := P223
        show Run p e below _ T (mkF m 190 #[.val (.int p0), .val (.int p1), .val (.int p2), .val (.int p3), .val (.int 2), .val (.int v2), .val (.int v3), .val (.int v4), .val (.ref x6), .val (.ref x13), .val (.ref x24), .val (.ref x39), .val (.ref x24), .val (.ref x182), .val (.ref y199)] [.int 112])
        refine s_bipush w (hb hby at_190) (v := 112) rfl (pc' := 192) rfl ?_
        refine s_icmp_eq w (hb hby at_192) (by decide) (pc1 := 195) rfl (pc2 := 197) rfl (fun q => absurd q (by decide)) (fun _ => ?_)
        refine s_aload w (hb hby at_197) rfl rfl (pc' := 199) rfl ?_
        refine s_iconst w (hb hby at_199) (v := 4) rfl (pc' := 200) rfl ?_
        obtain ⟨Yt, Yk, Yv, Yc, Ya, Yl⟩ := S202.lat latS
        refine w_virtB w (y := (⟨"java/lang/String", "charAt", "(I)C"⟩ : MethodName)) (y' := (⟨"java/lang/String", "charAt", "(I)C"⟩ : MethodName)) (C := ST) (hw _ (List.mem_of_getElem? (i := 152) rfl)) (hw _ (List.mem_of_getElem? (i := 153) rfl)) (hw _ (List.mem_of_getElem? (i := 155) rfl)) (hw _ (List.mem_of_getElem? (i := 155) rfl)) (hw _ (List.mem_of_getElem? (i := 154) rfl)) (by decide) S202.1 (Pv := fun v => v = some (.int (List.getD [104, 116, 116, 112, 115, 58, 47, 47, v2, v3] 4 0))) (as' := #[.ref y199, .int 4]) (W := 0) (fun vm0 hZ => StrChars.Road.chN hZ hwC (hw _ (List.mem_of_getElem? (i := 2) rfl)) S202.1 Yv Yc Ya (codOfL latS) (fun c q => lat_chr (latS c q)) (SC.ext w.old) hz (SF.ext w.old) hfm Yl (i := 4) (Nat.le_of_ble_eq_true rfl) rfl (by decide) (by decide)) (argsL := [.int 4]) (rest := []) (lenOf (by decide +kernel : parseMethodDescriptor "(I)C" = some ⟨[.int], (some .char)⟩) rfl) rfl rfl (hb hby at_200) (by rw [hml]; rfl) (Nat.le_of_eq rfl) (by decide) (by decide) (pc' := 203) rfl fun u225 T w P226 => ?_
        obtain rfl := P226
        show Run p e below _ T (mkF m 203 #[.val (.int p0), .val (.int p1), .val (.int p2), .val (.int p3), .val (.int 2), .val (.int v2), .val (.int v3), .val (.int v4), .val (.ref x6), .val (.ref x13), .val (.ref x24), .val (.ref x39), .val (.ref x24), .val (.ref x182), .val (.ref y199)] [.int 115])
        refine s_bipush w (hb hby at_203) (v := 115) rfl (pc' := 205) rfl ?_
        refine s_icmp_ne w (hb hby at_205) (by decide) (pc1 := 208) rfl (pc2 := 243) rfl (fun _ => ?_) (fun q => absurd q (by decide))
        refine s_aload w (hb hby at_208) rfl rfl (pc' := 210) rfl ?_
        refine s_iconst w (hb hby at_210) (v := 5) rfl (pc' := 211) rfl ?_
        obtain ⟨Yt, Yk, Yv, Yc, Ya, Yl⟩ := S202.lat latS
        refine w_virtB w (y := (⟨"java/lang/String", "charAt", "(I)C"⟩ : MethodName)) (y' := (⟨"java/lang/String", "charAt", "(I)C"⟩ : MethodName)) (C := ST) (hw _ (List.mem_of_getElem? (i := 152) rfl)) (hw _ (List.mem_of_getElem? (i := 153) rfl)) (hw _ (List.mem_of_getElem? (i := 155) rfl)) (hw _ (List.mem_of_getElem? (i := 155) rfl)) (hw _ (List.mem_of_getElem? (i := 154) rfl)) (by decide) S202.1 (Pv := fun v => v = some (.int (List.getD [104, 116, 116, 112, 115, 58, 47, 47, v2, v3] 5 0))) (as' := #[.ref y199, .int 5]) (W := 0) (fun vm0 hZ => StrChars.Road.chN hZ hwC (hw _ (List.mem_of_getElem? (i := 2) rfl)) S202.1 Yv Yc Ya (codOfL latS) (fun c q => lat_chr (latS c q)) (SC.ext w.old) hz (SF.ext w.old) hfm Yl (i := 5) (Nat.le_of_ble_eq_true rfl) rfl (by decide) (by decide)) (argsL := [.int 5]) (rest := []) (lenOf (by decide +kernel : parseMethodDescriptor "(I)C" = some ⟨[.int], (some .char)⟩) rfl) rfl rfl (hb hby at_211) (by rw [hml]; rfl) (Nat.le_of_eq rfl) (by decide) (by decide) (pc' := 214) rfl fun u228 T w P229 => ?_
        obtain rfl := P229
        show Run p e below _ T (mkF m 214 #[.val (.int p0), .val (.int p1), .val (.int p2), .val (.int p3), .val (.int 2), .val (.int v2), .val (.int v3), .val (.int v4), .val (.ref x6), .val (.ref x13), .val (.ref x24), .val (.ref x39), .val (.ref x24), .val (.ref x182), .val (.ref y199)] [.int 58])
        refine s_bipush w (hb hby at_214) (v := 58) rfl (pc' := 216) rfl ?_
        refine s_icmp_ne w (hb hby at_216) (by decide) (pc1 := 219) rfl (pc2 := 243) rfl (fun _ => ?_) (fun q => absurd q (by decide))
        refine s_aload w (hb hby at_219) rfl rfl (pc' := 221) rfl ?_
        refine s_bipush w (hb hby at_221) (v := 6) rfl (pc' := 223) rfl ?_
        obtain ⟨Yt, Yk, Yv, Yc, Ya, Yl⟩ := S202.lat latS
        refine w_virtB w (y := (⟨"java/lang/String", "charAt", "(I)C"⟩ : MethodName)) (y' := (⟨"java/lang/String", "charAt", "(I)C"⟩ : MethodName)) (C := ST) (hw _ (List.mem_of_getElem? (i := 152) rfl)) (hw _ (List.mem_of_getElem? (i := 153) rfl)) (hw _ (List.mem_of_getElem? (i := 155) rfl)) (hw _ (List.mem_of_getElem? (i := 155) rfl)) (hw _ (List.mem_of_getElem? (i := 154) rfl)) (by decide) S202.1 (Pv := fun v => v = some (.int (List.getD [104, 116, 116, 112, 115, 58, 47, 47, v2, v3] 6 0))) (as' := #[.ref y199, .int 6]) (W := 0) (fun vm0 hZ => StrChars.Road.chN hZ hwC (hw _ (List.mem_of_getElem? (i := 2) rfl)) S202.1 Yv Yc Ya (codOfL latS) (fun c q => lat_chr (latS c q)) (SC.ext w.old) hz (SF.ext w.old) hfm Yl (i := 6) (Nat.le_of_ble_eq_true rfl) rfl (by decide) (by decide)) (argsL := [.int 6]) (rest := []) (lenOf (by decide +kernel : parseMethodDescriptor "(I)C" = some ⟨[.int], (some .char)⟩) rfl) rfl rfl (hb hby at_223) (by rw [hml]; rfl) (Nat.le_of_eq rfl) (by decide) (by decide) (pc' := 226) rfl fun u231 T w P232 => ?_
        obtain rfl := P232
        show Run p e below _ T (mkF m 226 #[.val (.int p0), .val (.int p1), .val (.int p2), .val (.int p3), .val (.int 2), .val (.int v2), .val (.int v3), .val (.int v4), .val (.ref x6), .val (.ref x13), .val (.ref x24), .val (.ref x39), .val (.ref x24), .val (.ref x182), .val (.ref y199)] [.int 47])
        refine s_bipush w (hb hby at_226) (v := 47) rfl (pc' := 228) rfl ?_
        refine s_icmp_ne w (hb hby at_228) (by decide) (pc1 := 231) rfl (pc2 := 243) rfl (fun _ => ?_) (fun q => absurd q (by decide))
        refine s_aload w (hb hby at_231) rfl rfl (pc' := 233) rfl ?_
        refine s_bipush w (hb hby at_233) (v := 7) rfl (pc' := 235) rfl ?_
        obtain ⟨Yt, Yk, Yv, Yc, Ya, Yl⟩ := S202.lat latS
        refine w_virtB w (y := (⟨"java/lang/String", "charAt", "(I)C"⟩ : MethodName)) (y' := (⟨"java/lang/String", "charAt", "(I)C"⟩ : MethodName)) (C := ST) (hw _ (List.mem_of_getElem? (i := 152) rfl)) (hw _ (List.mem_of_getElem? (i := 153) rfl)) (hw _ (List.mem_of_getElem? (i := 155) rfl)) (hw _ (List.mem_of_getElem? (i := 155) rfl)) (hw _ (List.mem_of_getElem? (i := 154) rfl)) (by decide) S202.1 (Pv := fun v => v = some (.int (List.getD [104, 116, 116, 112, 115, 58, 47, 47, v2, v3] 7 0))) (as' := #[.ref y199, .int 7]) (W := 0) (fun vm0 hZ => StrChars.Road.chN hZ hwC (hw _ (List.mem_of_getElem? (i := 2) rfl)) S202.1 Yv Yc Ya (codOfL latS) (fun c q => lat_chr (latS c q)) (SC.ext w.old) hz (SF.ext w.old) hfm Yl (i := 7) (Nat.le_of_ble_eq_true rfl) rfl (by decide) (by decide)) (argsL := [.int 7]) (rest := []) (lenOf (by decide +kernel : parseMethodDescriptor "(I)C" = some ⟨[.int], (some .char)⟩) rfl) rfl rfl (hb hby at_235) (by rw [hml]; rfl) (Nat.le_of_eq rfl) (by decide) (by decide) (pc' := 238) rfl fun u234 T w P235 => ?_
        obtain rfl := P235
        show Run p e below _ T (mkF m 238 #[.val (.int p0), .val (.int p1), .val (.int p2), .val (.int p3), .val (.int 2), .val (.int v2), .val (.int v3), .val (.int v4), .val (.ref x6), .val (.ref x13), .val (.ref x24), .val (.ref x39), .val (.ref x24), .val (.ref x182), .val (.ref y199)] [.int 47])
        refine s_bipush w (hb hby at_238) (v := 47) rfl (pc' := 240) rfl ?_
        refine s_icmp_eq w (hb hby at_240) (by decide) (pc1 := 243) rfl (pc2 := 245) rfl (fun q => absurd q (by decide)) (fun _ => ?_)
        refine s_iload w (hb hby at_245) rfl (pc' := 247) rfl ?_
        refine s_iconst w (hb hby at_247) (v := 1) rfl (pc' := 248) rfl ?_
        refine s_icmp_lt w (hb hby at_248) (by decide) (pc1 := 251) rfl (pc2 := 265) rfl (fun _ => ?_) (fun q => absurd q (by decide))
        refine s_aload w (hb hby at_251) rfl rfl (pc' := 253) rfl ?_
        refine s_bipush w (hb hby at_253) (v := 8) rfl (pc' := 255) rfl ?_
        obtain ⟨Yt, Yk, Yv, Yc, Ya, Yl⟩ := S202.lat latS
        refine w_virtB w (y := (⟨"java/lang/String", "charAt", "(I)C"⟩ : MethodName)) (y' := (⟨"java/lang/String", "charAt", "(I)C"⟩ : MethodName)) (C := ST) (hw _ (List.mem_of_getElem? (i := 152) rfl)) (hw _ (List.mem_of_getElem? (i := 153) rfl)) (hw _ (List.mem_of_getElem? (i := 155) rfl)) (hw _ (List.mem_of_getElem? (i := 155) rfl)) (hw _ (List.mem_of_getElem? (i := 154) rfl)) (by decide) S202.1 (Pv := fun v => v = some (.int (List.getD [104, 116, 116, 112, 115, 58, 47, 47, v2, v3] 8 0))) (as' := #[.ref y199, .int 8]) (W := 0) (fun vm0 hZ => StrChars.Road.chN hZ hwC (hw _ (List.mem_of_getElem? (i := 2) rfl)) S202.1 Yv Yc Ya (codOfL latS) (fun c q => lat_chr (latS c q)) (SC.ext w.old) hz (SF.ext w.old) hfm Yl (i := 8) (Nat.le_of_ble_eq_true rfl) rfl (by decide) (by decide)) (argsL := [.int 8]) (rest := []) (lenOf (by decide +kernel : parseMethodDescriptor "(I)C" = some ⟨[.int], (some .char)⟩) rfl) rfl rfl (hb hby at_255) (by rw [hml]; rfl) (Nat.le_of_eq rfl) (by decide) (by decide) (pc' := 258) rfl fun u238 T w P239 => ?_
        obtain rfl := P239
        show Run p e below _ T (mkF m 258 #[.val (.int p0), .val (.int p1), .val (.int p2), .val (.int p3), .val (.int 2), .val (.int v2), .val (.int v3), .val (.int v4), .val (.ref x6), .val (.ref x13), .val (.ref x24), .val (.ref x39), .val (.ref x24), .val (.ref x182), .val (.ref y199)] [.int v2])
        refine s_iload w (hb hby at_258) rfl (pc' := 260) rfl ?_
        refine s_icmp_eq w (hb hby at_260) (by decide) (pc1 := 263) rfl (pc2 := 265) rfl (fun ct240 => ?_) (fun ct240 => ?_)
        · -- ¬ (v2 = v2)
          refine s_iconst w (hb hby at_263) (v := 0) rfl (pc' := 264) rfl ?_
          exact absurd rfl ct240
        · -- v2 = v2
          refine s_iload w (hb hby at_265) rfl (pc' := 267) rfl ?_
          refine s_iconst w (hb hby at_267) (v := 2) rfl (pc' := 268) rfl ?_
          refine s_icmp_lt w (hb hby at_268) (by decide) (pc1 := 271) rfl (pc2 := 285) rfl (fun _ => ?_) (fun q => absurd q (by decide))
          refine s_aload w (hb hby at_271) rfl rfl (pc' := 273) rfl ?_
          refine s_bipush w (hb hby at_273) (v := 9) rfl (pc' := 275) rfl ?_
          obtain ⟨Yt, Yk, Yv, Yc, Ya, Yl⟩ := S202.lat latS
          refine w_virtB w (y := (⟨"java/lang/String", "charAt", "(I)C"⟩ : MethodName)) (y' := (⟨"java/lang/String", "charAt", "(I)C"⟩ : MethodName)) (C := ST) (hw _ (List.mem_of_getElem? (i := 152) rfl)) (hw _ (List.mem_of_getElem? (i := 153) rfl)) (hw _ (List.mem_of_getElem? (i := 155) rfl)) (hw _ (List.mem_of_getElem? (i := 155) rfl)) (hw _ (List.mem_of_getElem? (i := 154) rfl)) (by decide) S202.1 (Pv := fun v => v = some (.int (List.getD [104, 116, 116, 112, 115, 58, 47, 47, v2, v3] 9 0))) (as' := #[.ref y199, .int 9]) (W := 0) (fun vm0 hZ => StrChars.Road.chN hZ hwC (hw _ (List.mem_of_getElem? (i := 2) rfl)) S202.1 Yv Yc Ya (codOfL latS) (fun c q => lat_chr (latS c q)) (SC.ext w.old) hz (SF.ext w.old) hfm Yl (i := 9) (Nat.le_of_ble_eq_true rfl) rfl (by decide) (by decide)) (argsL := [.int 9]) (rest := []) (lenOf (by decide +kernel : parseMethodDescriptor "(I)C" = some ⟨[.int], (some .char)⟩) rfl) rfl rfl (hb hby at_275) (by rw [hml]; rfl) (Nat.le_of_eq rfl) (by decide) (by decide) (pc' := 278) rfl fun u242 T w P243 => ?_
          obtain rfl := P243
          show Run p e below _ T (mkF m 278 #[.val (.int p0), .val (.int p1), .val (.int p2), .val (.int p3), .val (.int 2), .val (.int v2), .val (.int v3), .val (.int v4), .val (.ref x6), .val (.ref x13), .val (.ref x24), .val (.ref x39), .val (.ref x24), .val (.ref x182), .val (.ref y199)] [.int v3])
          refine s_iload w (hb hby at_278) rfl (pc' := 280) rfl ?_
          refine s_icmp_eq w (hb hby at_280) (by decide) (pc1 := 283) rfl (pc2 := 285) rfl (fun ct244 => ?_) (fun ct244 => ?_)
          · -- ¬ (v3 = v3)
            refine s_iconst w (hb hby at_283) (v := 0) rfl (pc' := 284) rfl ?_
            exact absurd rfl ct244
          · -- v3 = v3
            refine s_iload w (hb hby at_285) rfl (pc' := 287) rfl ?_
            refine s_iconst w (hb hby at_287) (v := 3) rfl (pc' := 288) rfl ?_
            refine s_icmp_lt w (hb hby at_288) (by decide) (pc1 := 291) rfl (pc2 := 305) rfl (fun q => absurd q (by decide)) (fun _ => ?_)
            refine s_iconst w (hb hby at_305) (v := 1) rfl (pc' := 306) rfl ?_
            exact w_ireturn w hEL hs hlk hret rfl (Or.inr (Or.inl rfl)) (hb hby at_306) (by decide) (by decide) rfl
      · skip
        have e3 : v1 = 3 := (and3 p0).elim (fun q => absurd (hv1.symm.trans q) ct57) fun q => q.elim (fun q => absurd (hv1.symm.trans q) ct117) fun q => q.elim (fun q => absurd (hv1.symm.trans q) ct180) fun q => hv1.symm.trans q
        subst e3
        refine s_aload w (hb hby at_111) rfl rfl (pc' := 113) rfl ?_
        refine s_astore w #[.val (.int p0), .val (.int p1), .val (.int p2), .val (.int p3), .val (.int 3), .val (.int v2), .val (.int v3), .val (.int v4), .val (.ref x6), .val (.ref x13), .val (.ref x24), .val (.ref x39), .val (.ref x39), .unset, .unset] (hb hby at_113) rfl rfl (pc' := 115) rfl ?_
        refine w_new w (hw _ (List.mem_of_getElem? (i := 1) rfl)) (hw _ (List.mem_of_getElem? (i := 2) rfl)) (hw _ (List.mem_of_getElem? (i := 3) rfl)) (hb hby at_115) (pc' := 118) rfl (by decide) (by decide) fun T h246 x247 w E248 q249 r250 A251 D252 => ?_
        have F_value_x247 : Fld Z h246 x247 "java/lang/String" "value" "[B" (.null) := D252 (Or.inr (hw _ (List.mem_of_getElem? (i := 16) rfl))) (ty := (.array .byte)) (by decide)
        have F_coder_x247 : Fld Z h246 x247 "java/lang/String" "coder" "B" (.int 0) := D252 (Or.inr (hw _ (List.mem_of_getElem? (i := 17) rfl))) (ty := .byte) (by decide)
        refine s_dup w (hb hby at_118) rfl (pc' := 119) rfl ?_
        refine s_aload w (hb hby at_119) rfl rfl (pc' := 121) rfl ?_
        refine w_strInitP w hw1 (hw _ (List.mem_of_getElem? (i := 2) rfl)) (hw _ (List.mem_of_getElem? (i := 4) rfl)) (hw _ (List.mem_of_getElem? (i := 5) rfl)) (cs := [v2, v3, v4]) (n := 3) A251 F_value_x247 F_coder_x247 (show Arv Z h246 x39 k40 .char 3 (([v2, v3, v4] : List Int32).map Value.int) (.int 0) from (V55.ext E248)) SC hz rfl rfl (by decide) (by decide) (by intro c q; simp only [List.mem_cons, List.not_mem_nil, or_false] at q; rcases q with rfl | rfl | rfl <;> first | exact lv2 | exact lv3 | exact lv4) (List.mem_of_getElem? (i := 0) rfl) (Or.inr r250) (Nat.le_trans hZ0.1 r250) (hb hby at_121) (by rw [hml]; rfl) (W := 1) (Nat.le_of_eq rfl) (by decide) (by decide) (by decide) (by decide) (pc' := 124) rfl fun T h253 w K254 F255 => ?_
        have E256 := Ext.kp E248 K254 (allS q249 all0)
        refine s_astore w #[.val (.int p0), .val (.int p1), .val (.int p2), .val (.int p3), .val (.int 3), .val (.int v2), .val (.int v3), .val (.int v4), .val (.ref x6), .val (.ref x13), .val (.ref x24), .val (.ref x39), .val (.ref x39), .val (.ref x247), .unset] (hb hby at_124) rfl rfl (pc' := 126) rfl ?_
        refine s_aload w (hb hby at_126) rfl rfl (pc' := 128) rfl ?_
        have latD : ∀ c ∈ ([v2, v3, v4] : List Int32), Lat c := (by intro c q; simp only [List.mem_cons, List.not_mem_nil, or_false] at q; rcases q with rfl | rfl | rfl <;> first | exact lv2 | exact lv3 | exact lv4)
        refine w_staticN w hEL (y := (⟨"com/example/minder/minder/http/PdpIdentifier", "ofHost", "(Ljava/lang/String;)Lcom/example/minder/minder/http/PdpIdentifier;"⟩ : MethodName)) (hw _ (List.mem_of_getElem? (i := 22) rfl)) (hw _ (List.mem_of_getElem? (i := 23) rfl)) (hw _ (List.mem_of_getElem? (i := 24) rfl)) (hw _ (List.mem_of_getElem? (i := 25) rfl)) (by decide) (rm_ofh G0 h253 x247 [v2, v3, v4] F255 latD (Nat.le_of_ble_eq_true rfl)) all0 all0 (argsL := [.ref x247]) (rest := []) (lenOf (by decide +kernel : parseMethodDescriptor "(Ljava/lang/String;)Lcom/example/minder/minder/http/PdpIdentifier;" = some ⟨[(.object "java/lang/String")], (some (.object "com/example/minder/minder/http/PdpIdentifier"))⟩) rfl) rfl rfl (hb hby at_128) (by rw [hml]; rfl) (W := 0) (Nat.le_of_eq rfl) (by decide) (by decide) (by decide) (by decide) (pc' := 131) rfl fun u257 N258 T h259 w K260 P261 => ?_
        obtain ⟨rfl, P262⟩ := P261
        obtain ⟨p263, y264, rfl, A265, F266, S267⟩ := P262
        have E268 := Keep.ext0 K260
        have S267 : Str Z h259 y264 [104, 116, 116, 112, 115, 58, 47, 47, v2, v3, v4] := S267
        show Run p e below _ T (mkF m 131 #[.val (.int p0), .val (.int p1), .val (.int p2), .val (.int p3), .val (.int 3), .val (.int v2), .val (.int v3), .val (.int v4), .val (.ref x6), .val (.ref x13), .val (.ref x24), .val (.ref x39), .val (.ref x39), .val (.ref x247), .unset] [.ref p263])
        have latS : ∀ c ∈ ([104, 116, 116, 112, 115, 58, 47, 47, v2, v3, v4] : List Int32), Lat c := (by intro c q; simp only [List.mem_cons, List.not_mem_nil, or_false] at q; rcases q with rfl | rfl | rfl | rfl | rfl | rfl | rfl | rfl | rfl | rfl | rfl <;> first | exact (show Lat 104 by unfold Lat; decide) | exact (show Lat 116 by unfold Lat; decide) | exact (show Lat 116 by unfold Lat; decide) | exact (show Lat 112 by unfold Lat; decide) | exact (show Lat 115 by unfold Lat; decide) | exact (show Lat 58 by unfold Lat; decide) | exact (show Lat 47 by unfold Lat; decide) | exact (show Lat 47 by unfold Lat; decide) | exact lv2 | exact lv3 | exact lv4)
        refine w_virtualN w hEL (y := (⟨"com/example/minder/minder/http/PdpIdentifier", "toString", "()Ljava/lang/String;"⟩ : MethodName)) (y' := (⟨"com/example/minder/minder/http/PdpIdentifier", "toString", "()Ljava/lang/String;"⟩ : MethodName)) (C := "com/example/minder/minder/http/PdpIdentifier") (a := p263) (hw _ (List.mem_of_getElem? (i := 146) rfl)) (hw _ (List.mem_of_getElem? (i := 147) rfl)) (hw _ (List.mem_of_getElem? (i := 149) rfl)) (hw _ (List.mem_of_getElem? (i := 149) rfl)) (hw _ (List.mem_of_getElem? (i := 148) rfl)) (hw _ (List.mem_of_getElem? (i := 24) rfl)) (hw _ (List.mem_of_getElem? (i := 150) rfl)) (by decide) A265 (rm_pdt G0 h259 p263 y264 F266) all0 all0 (argsL := []) (rest := []) (lenOf (by decide +kernel : parseMethodDescriptor "()Ljava/lang/String;" = some ⟨[], (some (.object "java/lang/String"))⟩) rfl) rfl rfl (hb hby at_131) (by rw [hml]; rfl) (W := 0) (Nat.le_of_eq rfl) (by decide) (by decide) (by decide) (by decide) (pc' := 134) rfl fun u269 N270 T h271 w K272 P273 => ?_
        obtain ⟨rfl, P274⟩ := P273
        obtain ⟨rfl, rfl⟩ := P274
        show Run p e below _ T (mkF m 134 #[.val (.int p0), .val (.int p1), .val (.int p2), .val (.int p3), .val (.int 3), .val (.int v2), .val (.int v3), .val (.int v4), .val (.ref x6), .val (.ref x13), .val (.ref x24), .val (.ref x39), .val (.ref x39), .val (.ref x247), .unset] [.ref y264])
        refine s_astore w #[.val (.int p0), .val (.int p1), .val (.int p2), .val (.int p3), .val (.int 3), .val (.int v2), .val (.int v3), .val (.int v4), .val (.ref x6), .val (.ref x13), .val (.ref x24), .val (.ref x39), .val (.ref x39), .val (.ref x247), .val (.ref y264)] (hb hby at_134) rfl rfl (pc' := 136) rfl ?_
        refine s_aload w (hb hby at_136) rfl rfl (pc' := 138) rfl ?_
        obtain ⟨XE, Xt, Xkb, Xcd, XN, Xvs, Xq1, Xq2, Xq3, Xq4, Xq5, Xq6⟩ := S267
        refine w_virtB w (y := Len.yN) (y' := Len.yN) (C := ST) (hw _ (List.mem_of_getElem? (i := 151) rfl)) (hw _ (List.mem_of_getElem? (i := 58) rfl)) (hw _ (List.mem_of_getElem? (i := 60) rfl)) (hw _ (List.mem_of_getElem? (i := 60) rfl)) (hw _ (List.mem_of_getElem? (i := 59) rfl)) (by decide) XE (Pv := fun v => v = some (.int (Int32.ofNat ([104, 116, 116, 112, 115, 58, 47, 47, v2, v3, v4]).length))) (as' := #[.ref y264]) (W := 0) (fun vm0 hZ => StrChars.Road.lenW hZ hwL (hw _ (List.mem_of_getElem? (i := 2) rfl)) XE Xq1 Xq2 Xq3 Xq4 Xq5 (SC.ext w.old) hz Xq6 (by decide) (by decide)) (argsL := []) (rest := []) (lenOf (by decide +kernel : parseMethodDescriptor "()I" = some ⟨[], (some .int)⟩) rfl) rfl rfl (hb hby at_138) (by rw [hml]; rfl) (Nat.le_of_eq rfl) (by decide) (by decide) (pc' := 141) rfl fun u275 T w P276 => ?_
        obtain rfl := P276
        show Run p e below _ T (mkF m 141 #[.val (.int p0), .val (.int p1), .val (.int p2), .val (.int p3), .val (.int 3), .val (.int v2), .val (.int v3), .val (.int v4), .val (.ref x6), .val (.ref x13), .val (.ref x24), .val (.ref x39), .val (.ref x39), .val (.ref x247), .val (.ref y264)] [.int (Int32.ofNat ([104, 116, 116, 112, 115, 58, 47, 47, v2, v3, v4]).length)])
        show Run p e below _ T (mkF m 141 #[.val (.int p0), .val (.int p1), .val (.int p2), .val (.int p3), .val (.int 3), .val (.int v2), .val (.int v3), .val (.int v4), .val (.ref x6), .val (.ref x13), .val (.ref x24), .val (.ref x39), .val (.ref x39), .val (.ref x247), .val (.ref y264)] [.int 11])
        refine s_bipush w (hb hby at_141) (v := 8) rfl (pc' := 143) rfl ?_
        refine s_iload w (hb hby at_143) rfl (pc' := 145) rfl ?_
        refine s_iadd w (hb hby at_145) (pc' := 146) rfl ?_
        show Run p e below _ T (mkF m 146 #[.val (.int p0), .val (.int p1), .val (.int p2), .val (.int p3), .val (.int 3), .val (.int v2), .val (.int v3), .val (.int v4), .val (.ref x6), .val (.ref x13), .val (.ref x24), .val (.ref x39), .val (.ref x39), .val (.ref x247), .val (.ref y264)] [.int 11, .int 11])
        refine s_icmp_eq w (hb hby at_146) (by decide) (pc1 := 149) rfl (pc2 := 151) rfl (fun q => absurd q (by decide)) (fun _ => ?_)
        refine s_aload w (hb hby at_151) rfl rfl (pc' := 153) rfl ?_
        refine s_iconst w (hb hby at_153) (v := 0) rfl (pc' := 154) rfl ?_
        obtain ⟨Yt, Yk, Yv, Yc, Ya, Yl⟩ := S267.lat latS
        refine w_virtB w (y := (⟨"java/lang/String", "charAt", "(I)C"⟩ : MethodName)) (y' := (⟨"java/lang/String", "charAt", "(I)C"⟩ : MethodName)) (C := ST) (hw _ (List.mem_of_getElem? (i := 152) rfl)) (hw _ (List.mem_of_getElem? (i := 153) rfl)) (hw _ (List.mem_of_getElem? (i := 155) rfl)) (hw _ (List.mem_of_getElem? (i := 155) rfl)) (hw _ (List.mem_of_getElem? (i := 154) rfl)) (by decide) S267.1 (Pv := fun v => v = some (.int (List.getD [104, 116, 116, 112, 115, 58, 47, 47, v2, v3, v4] 0 0))) (as' := #[.ref y264, .int 0]) (W := 0) (fun vm0 hZ => StrChars.Road.chN hZ hwC (hw _ (List.mem_of_getElem? (i := 2) rfl)) S267.1 Yv Yc Ya (codOfL latS) (fun c q => lat_chr (latS c q)) (SC.ext w.old) hz (SF.ext w.old) hfm Yl (i := 0) (Nat.le_of_ble_eq_true rfl) rfl (by decide) (by decide)) (argsL := [.int 0]) (rest := []) (lenOf (by decide +kernel : parseMethodDescriptor "(I)C" = some ⟨[.int], (some .char)⟩) rfl) rfl rfl (hb hby at_154) (by rw [hml]; rfl) (Nat.le_of_eq rfl) (by decide) (by decide) (pc' := 157) rfl fun u278 T w P279 => ?_
        obtain rfl := P279
        show Run p e below _ T (mkF m 157 #[.val (.int p0), .val (.int p1), .val (.int p2), .val (.int p3), .val (.int 3), .val (.int v2), .val (.int v3), .val (.int v4), .val (.ref x6), .val (.ref x13), .val (.ref x24), .val (.ref x39), .val (.ref x39), .val (.ref x247), .val (.ref y264)] [.int 104])
        refine s_bipush w (hb hby at_157) (v := 104) rfl (pc' := 159) rfl ?_
        refine s_icmp_ne w (hb hby at_159) (by decide) (pc1 := 162) rfl (pc2 := 195) rfl (fun _ => ?_) (fun q => absurd q (by decide))
        refine s_aload w (hb hby at_162) rfl rfl (pc' := 164) rfl ?_
        refine s_iconst w (hb hby at_164) (v := 1) rfl (pc' := 165) rfl ?_
        obtain ⟨Yt, Yk, Yv, Yc, Ya, Yl⟩ := S267.lat latS
        refine w_virtB w (y := (⟨"java/lang/String", "charAt", "(I)C"⟩ : MethodName)) (y' := (⟨"java/lang/String", "charAt", "(I)C"⟩ : MethodName)) (C := ST) (hw _ (List.mem_of_getElem? (i := 152) rfl)) (hw _ (List.mem_of_getElem? (i := 153) rfl)) (hw _ (List.mem_of_getElem? (i := 155) rfl)) (hw _ (List.mem_of_getElem? (i := 155) rfl)) (hw _ (List.mem_of_getElem? (i := 154) rfl)) (by decide) S267.1 (Pv := fun v => v = some (.int (List.getD [104, 116, 116, 112, 115, 58, 47, 47, v2, v3, v4] 1 0))) (as' := #[.ref y264, .int 1]) (W := 0) (fun vm0 hZ => StrChars.Road.chN hZ hwC (hw _ (List.mem_of_getElem? (i := 2) rfl)) S267.1 Yv Yc Ya (codOfL latS) (fun c q => lat_chr (latS c q)) (SC.ext w.old) hz (SF.ext w.old) hfm Yl (i := 1) (Nat.le_of_ble_eq_true rfl) rfl (by decide) (by decide)) (argsL := [.int 1]) (rest := []) (lenOf (by decide +kernel : parseMethodDescriptor "(I)C" = some ⟨[.int], (some .char)⟩) rfl) rfl rfl (hb hby at_165) (by rw [hml]; rfl) (Nat.le_of_eq rfl) (by decide) (by decide) (pc' := 168) rfl fun u281 T w P282 => ?_
        obtain rfl := P282
        show Run p e below _ T (mkF m 168 #[.val (.int p0), .val (.int p1), .val (.int p2), .val (.int p3), .val (.int 3), .val (.int v2), .val (.int v3), .val (.int v4), .val (.ref x6), .val (.ref x13), .val (.ref x24), .val (.ref x39), .val (.ref x39), .val (.ref x247), .val (.ref y264)] [.int 116])
        refine s_bipush w (hb hby at_168) (v := 116) rfl (pc' := 170) rfl ?_
        refine s_icmp_ne w (hb hby at_170) (by decide) (pc1 := 173) rfl (pc2 := 195) rfl (fun _ => ?_) (fun q => absurd q (by decide))
        refine s_aload w (hb hby at_173) rfl rfl (pc' := 175) rfl ?_
        refine s_iconst w (hb hby at_175) (v := 2) rfl (pc' := 176) rfl ?_
        obtain ⟨Yt, Yk, Yv, Yc, Ya, Yl⟩ := S267.lat latS
        refine w_virtB w (y := (⟨"java/lang/String", "charAt", "(I)C"⟩ : MethodName)) (y' := (⟨"java/lang/String", "charAt", "(I)C"⟩ : MethodName)) (C := ST) (hw _ (List.mem_of_getElem? (i := 152) rfl)) (hw _ (List.mem_of_getElem? (i := 153) rfl)) (hw _ (List.mem_of_getElem? (i := 155) rfl)) (hw _ (List.mem_of_getElem? (i := 155) rfl)) (hw _ (List.mem_of_getElem? (i := 154) rfl)) (by decide) S267.1 (Pv := fun v => v = some (.int (List.getD [104, 116, 116, 112, 115, 58, 47, 47, v2, v3, v4] 2 0))) (as' := #[.ref y264, .int 2]) (W := 0) (fun vm0 hZ => StrChars.Road.chN hZ hwC (hw _ (List.mem_of_getElem? (i := 2) rfl)) S267.1 Yv Yc Ya (codOfL latS) (fun c q => lat_chr (latS c q)) (SC.ext w.old) hz (SF.ext w.old) hfm Yl (i := 2) (Nat.le_of_ble_eq_true rfl) rfl (by decide) (by decide)) (argsL := [.int 2]) (rest := []) (lenOf (by decide +kernel : parseMethodDescriptor "(I)C" = some ⟨[.int], (some .char)⟩) rfl) rfl rfl (hb hby at_176) (by rw [hml]; rfl) (Nat.le_of_eq rfl) (by decide) (by decide) (pc' := 179) rfl fun u284 T w P285 => ?_
        obtain rfl := P285
        show Run p e below _ T (mkF m 179 #[.val (.int p0), .val (.int p1), .val (.int p2), .val (.int p3), .val (.int 3), .val (.int v2), .val (.int v3), .val (.int v4), .val (.ref x6), .val (.ref x13), .val (.ref x24), .val (.ref x39), .val (.ref x39), .val (.ref x247), .val (.ref y264)] [.int 116])
        refine s_bipush w (hb hby at_179) (v := 116) rfl (pc' := 181) rfl ?_
        refine s_icmp_ne w (hb hby at_181) (by decide) (pc1 := 184) rfl (pc2 := 195) rfl (fun _ => ?_) (fun q => absurd q (by decide))
        refine s_aload w (hb hby at_184) rfl rfl (pc' := 186) rfl ?_
        refine s_iconst w (hb hby at_186) (v := 3) rfl (pc' := 187) rfl ?_
        obtain ⟨Yt, Yk, Yv, Yc, Ya, Yl⟩ := S267.lat latS
        refine w_virtB w (y := (⟨"java/lang/String", "charAt", "(I)C"⟩ : MethodName)) (y' := (⟨"java/lang/String", "charAt", "(I)C"⟩ : MethodName)) (C := ST) (hw _ (List.mem_of_getElem? (i := 152) rfl)) (hw _ (List.mem_of_getElem? (i := 153) rfl)) (hw _ (List.mem_of_getElem? (i := 155) rfl)) (hw _ (List.mem_of_getElem? (i := 155) rfl)) (hw _ (List.mem_of_getElem? (i := 154) rfl)) (by decide) S267.1 (Pv := fun v => v = some (.int (List.getD [104, 116, 116, 112, 115, 58, 47, 47, v2, v3, v4] 3 0))) (as' := #[.ref y264, .int 3]) (W := 0) (fun vm0 hZ => StrChars.Road.chN hZ hwC (hw _ (List.mem_of_getElem? (i := 2) rfl)) S267.1 Yv Yc Ya (codOfL latS) (fun c q => lat_chr (latS c q)) (SC.ext w.old) hz (SF.ext w.old) hfm Yl (i := 3) (Nat.le_of_ble_eq_true rfl) rfl (by decide) (by decide)) (argsL := [.int 3]) (rest := []) (lenOf (by decide +kernel : parseMethodDescriptor "(I)C" = some ⟨[.int], (some .char)⟩) rfl) rfl rfl (hb hby at_187) (by rw [hml]; rfl) (Nat.le_of_eq rfl) (by decide) (by decide) (pc' := 190) rfl fun u287 T w P288 => ?_
        obtain rfl := P288
        show Run p e below _ T (mkF m 190 #[.val (.int p0), .val (.int p1), .val (.int p2), .val (.int p3), .val (.int 3), .val (.int v2), .val (.int v3), .val (.int v4), .val (.ref x6), .val (.ref x13), .val (.ref x24), .val (.ref x39), .val (.ref x39), .val (.ref x247), .val (.ref y264)] [.int 112])
        refine s_bipush w (hb hby at_190) (v := 112) rfl (pc' := 192) rfl ?_
        refine s_icmp_eq w (hb hby at_192) (by decide) (pc1 := 195) rfl (pc2 := 197) rfl (fun q => absurd q (by decide)) (fun _ => ?_)
        refine s_aload w (hb hby at_197) rfl rfl (pc' := 199) rfl ?_
        refine s_iconst w (hb hby at_199) (v := 4) rfl (pc' := 200) rfl ?_
        obtain ⟨Yt, Yk, Yv, Yc, Ya, Yl⟩ := S267.lat latS
        refine w_virtB w (y := (⟨"java/lang/String", "charAt", "(I)C"⟩ : MethodName)) (y' := (⟨"java/lang/String", "charAt", "(I)C"⟩ : MethodName)) (C := ST) (hw _ (List.mem_of_getElem? (i := 152) rfl)) (hw _ (List.mem_of_getElem? (i := 153) rfl)) (hw _ (List.mem_of_getElem? (i := 155) rfl)) (hw _ (List.mem_of_getElem? (i := 155) rfl)) (hw _ (List.mem_of_getElem? (i := 154) rfl)) (by decide) S267.1 (Pv := fun v => v = some (.int (List.getD [104, 116, 116, 112, 115, 58, 47, 47, v2, v3, v4] 4 0))) (as' := #[.ref y264, .int 4]) (W := 0) (fun vm0 hZ => StrChars.Road.chN hZ hwC (hw _ (List.mem_of_getElem? (i := 2) rfl)) S267.1 Yv Yc Ya (codOfL latS) (fun c q => lat_chr (latS c q)) (SC.ext w.old) hz (SF.ext w.old) hfm Yl (i := 4) (Nat.le_of_ble_eq_true rfl) rfl (by decide) (by decide)) (argsL := [.int 4]) (rest := []) (lenOf (by decide +kernel : parseMethodDescriptor "(I)C" = some ⟨[.int], (some .char)⟩) rfl) rfl rfl (hb hby at_200) (by rw [hml]; rfl) (Nat.le_of_eq rfl) (by decide) (by decide) (pc' := 203) rfl fun u290 T w P291 => ?_
        obtain rfl := P291
        show Run p e below _ T (mkF m 203 #[.val (.int p0), .val (.int p1), .val (.int p2), .val (.int p3), .val (.int 3), .val (.int v2), .val (.int v3), .val (.int v4), .val (.ref x6), .val (.ref x13), .val (.ref x24), .val (.ref x39), .val (.ref x39), .val (.ref x247), .val (.ref y264)] [.int 115])
        refine s_bipush w (hb hby at_203) (v := 115) rfl (pc' := 205) rfl ?_
        refine s_icmp_ne w (hb hby at_205) (by decide) (pc1 := 208) rfl (pc2 := 243) rfl (fun _ => ?_) (fun q => absurd q (by decide))
        refine s_aload w (hb hby at_208) rfl rfl (pc' := 210) rfl ?_
        refine s_iconst w (hb hby at_210) (v := 5) rfl (pc' := 211) rfl ?_
        obtain ⟨Yt, Yk, Yv, Yc, Ya, Yl⟩ := S267.lat latS
        refine w_virtB w (y := (⟨"java/lang/String", "charAt", "(I)C"⟩ : MethodName)) (y' := (⟨"java/lang/String", "charAt", "(I)C"⟩ : MethodName)) (C := ST) (hw _ (List.mem_of_getElem? (i := 152) rfl)) (hw _ (List.mem_of_getElem? (i := 153) rfl)) (hw _ (List.mem_of_getElem? (i := 155) rfl)) (hw _ (List.mem_of_getElem? (i := 155) rfl)) (hw _ (List.mem_of_getElem? (i := 154) rfl)) (by decide) S267.1 (Pv := fun v => v = some (.int (List.getD [104, 116, 116, 112, 115, 58, 47, 47, v2, v3, v4] 5 0))) (as' := #[.ref y264, .int 5]) (W := 0) (fun vm0 hZ => StrChars.Road.chN hZ hwC (hw _ (List.mem_of_getElem? (i := 2) rfl)) S267.1 Yv Yc Ya (codOfL latS) (fun c q => lat_chr (latS c q)) (SC.ext w.old) hz (SF.ext w.old) hfm Yl (i := 5) (Nat.le_of_ble_eq_true rfl) rfl (by decide) (by decide)) (argsL := [.int 5]) (rest := []) (lenOf (by decide +kernel : parseMethodDescriptor "(I)C" = some ⟨[.int], (some .char)⟩) rfl) rfl rfl (hb hby at_211) (by rw [hml]; rfl) (Nat.le_of_eq rfl) (by decide) (by decide) (pc' := 214) rfl fun u293 T w P294 => ?_
        obtain rfl := P294
        show Run p e below _ T (mkF m 214 #[.val (.int p0), .val (.int p1), .val (.int p2), .val (.int p3), .val (.int 3), .val (.int v2), .val (.int v3), .val (.int v4), .val (.ref x6), .val (.ref x13), .val (.ref x24), .val (.ref x39), .val (.ref x39), .val (.ref x247), .val (.ref y264)] [.int 58])
        refine s_bipush w (hb hby at_214) (v := 58) rfl (pc' := 216) rfl ?_
        refine s_icmp_ne w (hb hby at_216) (by decide) (pc1 := 219) rfl (pc2 := 243) rfl (fun _ => ?_) (fun q => absurd q (by decide))
        refine s_aload w (hb hby at_219) rfl rfl (pc' := 221) rfl ?_
        refine s_bipush w (hb hby at_221) (v := 6) rfl (pc' := 223) rfl ?_
        obtain ⟨Yt, Yk, Yv, Yc, Ya, Yl⟩ := S267.lat latS
        refine w_virtB w (y := (⟨"java/lang/String", "charAt", "(I)C"⟩ : MethodName)) (y' := (⟨"java/lang/String", "charAt", "(I)C"⟩ : MethodName)) (C := ST) (hw _ (List.mem_of_getElem? (i := 152) rfl)) (hw _ (List.mem_of_getElem? (i := 153) rfl)) (hw _ (List.mem_of_getElem? (i := 155) rfl)) (hw _ (List.mem_of_getElem? (i := 155) rfl)) (hw _ (List.mem_of_getElem? (i := 154) rfl)) (by decide) S267.1 (Pv := fun v => v = some (.int (List.getD [104, 116, 116, 112, 115, 58, 47, 47, v2, v3, v4] 6 0))) (as' := #[.ref y264, .int 6]) (W := 0) (fun vm0 hZ => StrChars.Road.chN hZ hwC (hw _ (List.mem_of_getElem? (i := 2) rfl)) S267.1 Yv Yc Ya (codOfL latS) (fun c q => lat_chr (latS c q)) (SC.ext w.old) hz (SF.ext w.old) hfm Yl (i := 6) (Nat.le_of_ble_eq_true rfl) rfl (by decide) (by decide)) (argsL := [.int 6]) (rest := []) (lenOf (by decide +kernel : parseMethodDescriptor "(I)C" = some ⟨[.int], (some .char)⟩) rfl) rfl rfl (hb hby at_223) (by rw [hml]; rfl) (Nat.le_of_eq rfl) (by decide) (by decide) (pc' := 226) rfl fun u296 T w P297 => ?_
        obtain rfl := P297
        show Run p e below _ T (mkF m 226 #[.val (.int p0), .val (.int p1), .val (.int p2), .val (.int p3), .val (.int 3), .val (.int v2), .val (.int v3), .val (.int v4), .val (.ref x6), .val (.ref x13), .val (.ref x24), .val (.ref x39), .val (.ref x39), .val (.ref x247), .val (.ref y264)] [.int 47])
        refine s_bipush w (hb hby at_226) (v := 47) rfl (pc' := 228) rfl ?_
        refine s_icmp_ne w (hb hby at_228) (by decide) (pc1 := 231) rfl (pc2 := 243) rfl (fun _ => ?_) (fun q => absurd q (by decide))
        refine s_aload w (hb hby at_231) rfl rfl (pc' := 233) rfl ?_
        refine s_bipush w (hb hby at_233) (v := 7) rfl (pc' := 235) rfl ?_
        obtain ⟨Yt, Yk, Yv, Yc, Ya, Yl⟩ := S267.lat latS
        refine w_virtB w (y := (⟨"java/lang/String", "charAt", "(I)C"⟩ : MethodName)) (y' := (⟨"java/lang/String", "charAt", "(I)C"⟩ : MethodName)) (C := ST) (hw _ (List.mem_of_getElem? (i := 152) rfl)) (hw _ (List.mem_of_getElem? (i := 153) rfl)) (hw _ (List.mem_of_getElem? (i := 155) rfl)) (hw _ (List.mem_of_getElem? (i := 155) rfl)) (hw _ (List.mem_of_getElem? (i := 154) rfl)) (by decide) S267.1 (Pv := fun v => v = some (.int (List.getD [104, 116, 116, 112, 115, 58, 47, 47, v2, v3, v4] 7 0))) (as' := #[.ref y264, .int 7]) (W := 0) (fun vm0 hZ => StrChars.Road.chN hZ hwC (hw _ (List.mem_of_getElem? (i := 2) rfl)) S267.1 Yv Yc Ya (codOfL latS) (fun c q => lat_chr (latS c q)) (SC.ext w.old) hz (SF.ext w.old) hfm Yl (i := 7) (Nat.le_of_ble_eq_true rfl) rfl (by decide) (by decide)) (argsL := [.int 7]) (rest := []) (lenOf (by decide +kernel : parseMethodDescriptor "(I)C" = some ⟨[.int], (some .char)⟩) rfl) rfl rfl (hb hby at_235) (by rw [hml]; rfl) (Nat.le_of_eq rfl) (by decide) (by decide) (pc' := 238) rfl fun u299 T w P300 => ?_
        obtain rfl := P300
        show Run p e below _ T (mkF m 238 #[.val (.int p0), .val (.int p1), .val (.int p2), .val (.int p3), .val (.int 3), .val (.int v2), .val (.int v3), .val (.int v4), .val (.ref x6), .val (.ref x13), .val (.ref x24), .val (.ref x39), .val (.ref x39), .val (.ref x247), .val (.ref y264)] [.int 47])
        refine s_bipush w (hb hby at_238) (v := 47) rfl (pc' := 240) rfl ?_
        refine s_icmp_eq w (hb hby at_240) (by decide) (pc1 := 243) rfl (pc2 := 245) rfl (fun q => absurd q (by decide)) (fun _ => ?_)
        refine s_iload w (hb hby at_245) rfl (pc' := 247) rfl ?_
        refine s_iconst w (hb hby at_247) (v := 1) rfl (pc' := 248) rfl ?_
        refine s_icmp_lt w (hb hby at_248) (by decide) (pc1 := 251) rfl (pc2 := 265) rfl (fun _ => ?_) (fun q => absurd q (by decide))
        refine s_aload w (hb hby at_251) rfl rfl (pc' := 253) rfl ?_
        refine s_bipush w (hb hby at_253) (v := 8) rfl (pc' := 255) rfl ?_
        obtain ⟨Yt, Yk, Yv, Yc, Ya, Yl⟩ := S267.lat latS
        refine w_virtB w (y := (⟨"java/lang/String", "charAt", "(I)C"⟩ : MethodName)) (y' := (⟨"java/lang/String", "charAt", "(I)C"⟩ : MethodName)) (C := ST) (hw _ (List.mem_of_getElem? (i := 152) rfl)) (hw _ (List.mem_of_getElem? (i := 153) rfl)) (hw _ (List.mem_of_getElem? (i := 155) rfl)) (hw _ (List.mem_of_getElem? (i := 155) rfl)) (hw _ (List.mem_of_getElem? (i := 154) rfl)) (by decide) S267.1 (Pv := fun v => v = some (.int (List.getD [104, 116, 116, 112, 115, 58, 47, 47, v2, v3, v4] 8 0))) (as' := #[.ref y264, .int 8]) (W := 0) (fun vm0 hZ => StrChars.Road.chN hZ hwC (hw _ (List.mem_of_getElem? (i := 2) rfl)) S267.1 Yv Yc Ya (codOfL latS) (fun c q => lat_chr (latS c q)) (SC.ext w.old) hz (SF.ext w.old) hfm Yl (i := 8) (Nat.le_of_ble_eq_true rfl) rfl (by decide) (by decide)) (argsL := [.int 8]) (rest := []) (lenOf (by decide +kernel : parseMethodDescriptor "(I)C" = some ⟨[.int], (some .char)⟩) rfl) rfl rfl (hb hby at_255) (by rw [hml]; rfl) (Nat.le_of_eq rfl) (by decide) (by decide) (pc' := 258) rfl fun u303 T w P304 => ?_
        obtain rfl := P304
        show Run p e below _ T (mkF m 258 #[.val (.int p0), .val (.int p1), .val (.int p2), .val (.int p3), .val (.int 3), .val (.int v2), .val (.int v3), .val (.int v4), .val (.ref x6), .val (.ref x13), .val (.ref x24), .val (.ref x39), .val (.ref x39), .val (.ref x247), .val (.ref y264)] [.int v2])
        refine s_iload w (hb hby at_258) rfl (pc' := 260) rfl ?_
        refine s_icmp_eq w (hb hby at_260) (by decide) (pc1 := 263) rfl (pc2 := 265) rfl (fun ct305 => ?_) (fun ct305 => ?_)
        · -- ¬ (v2 = v2)
          refine s_iconst w (hb hby at_263) (v := 0) rfl (pc' := 264) rfl ?_
          exact absurd rfl ct305
        · -- v2 = v2
          refine s_iload w (hb hby at_265) rfl (pc' := 267) rfl ?_
          refine s_iconst w (hb hby at_267) (v := 2) rfl (pc' := 268) rfl ?_
          refine s_icmp_lt w (hb hby at_268) (by decide) (pc1 := 271) rfl (pc2 := 285) rfl (fun _ => ?_) (fun q => absurd q (by decide))
          refine s_aload w (hb hby at_271) rfl rfl (pc' := 273) rfl ?_
          refine s_bipush w (hb hby at_273) (v := 9) rfl (pc' := 275) rfl ?_
          obtain ⟨Yt, Yk, Yv, Yc, Ya, Yl⟩ := S267.lat latS
          refine w_virtB w (y := (⟨"java/lang/String", "charAt", "(I)C"⟩ : MethodName)) (y' := (⟨"java/lang/String", "charAt", "(I)C"⟩ : MethodName)) (C := ST) (hw _ (List.mem_of_getElem? (i := 152) rfl)) (hw _ (List.mem_of_getElem? (i := 153) rfl)) (hw _ (List.mem_of_getElem? (i := 155) rfl)) (hw _ (List.mem_of_getElem? (i := 155) rfl)) (hw _ (List.mem_of_getElem? (i := 154) rfl)) (by decide) S267.1 (Pv := fun v => v = some (.int (List.getD [104, 116, 116, 112, 115, 58, 47, 47, v2, v3, v4] 9 0))) (as' := #[.ref y264, .int 9]) (W := 0) (fun vm0 hZ => StrChars.Road.chN hZ hwC (hw _ (List.mem_of_getElem? (i := 2) rfl)) S267.1 Yv Yc Ya (codOfL latS) (fun c q => lat_chr (latS c q)) (SC.ext w.old) hz (SF.ext w.old) hfm Yl (i := 9) (Nat.le_of_ble_eq_true rfl) rfl (by decide) (by decide)) (argsL := [.int 9]) (rest := []) (lenOf (by decide +kernel : parseMethodDescriptor "(I)C" = some ⟨[.int], (some .char)⟩) rfl) rfl rfl (hb hby at_275) (by rw [hml]; rfl) (Nat.le_of_eq rfl) (by decide) (by decide) (pc' := 278) rfl fun u307 T w P308 => ?_
          obtain rfl := P308
          show Run p e below _ T (mkF m 278 #[.val (.int p0), .val (.int p1), .val (.int p2), .val (.int p3), .val (.int 3), .val (.int v2), .val (.int v3), .val (.int v4), .val (.ref x6), .val (.ref x13), .val (.ref x24), .val (.ref x39), .val (.ref x39), .val (.ref x247), .val (.ref y264)] [.int v3])
          refine s_iload w (hb hby at_278) rfl (pc' := 280) rfl ?_
          refine s_icmp_eq w (hb hby at_280) (by decide) (pc1 := 283) rfl (pc2 := 285) rfl (fun ct309 => ?_) (fun ct309 => ?_)
          · -- ¬ (v3 = v3)
            refine s_iconst w (hb hby at_283) (v := 0) rfl (pc' := 284) rfl ?_
            exact absurd rfl ct309
          · -- v3 = v3
            refine s_iload w (hb hby at_285) rfl (pc' := 287) rfl ?_
            refine s_iconst w (hb hby at_287) (v := 3) rfl (pc' := 288) rfl ?_
            refine s_icmp_lt w (hb hby at_288) (by decide) (pc1 := 291) rfl (pc2 := 305) rfl (fun _ => ?_) (fun q => absurd q (by decide))
            refine s_aload w (hb hby at_291) rfl rfl (pc' := 293) rfl ?_
            refine s_bipush w (hb hby at_293) (v := 10) rfl (pc' := 295) rfl ?_
            obtain ⟨Yt, Yk, Yv, Yc, Ya, Yl⟩ := S267.lat latS
            refine w_virtB w (y := (⟨"java/lang/String", "charAt", "(I)C"⟩ : MethodName)) (y' := (⟨"java/lang/String", "charAt", "(I)C"⟩ : MethodName)) (C := ST) (hw _ (List.mem_of_getElem? (i := 152) rfl)) (hw _ (List.mem_of_getElem? (i := 153) rfl)) (hw _ (List.mem_of_getElem? (i := 155) rfl)) (hw _ (List.mem_of_getElem? (i := 155) rfl)) (hw _ (List.mem_of_getElem? (i := 154) rfl)) (by decide) S267.1 (Pv := fun v => v = some (.int (List.getD [104, 116, 116, 112, 115, 58, 47, 47, v2, v3, v4] 10 0))) (as' := #[.ref y264, .int 10]) (W := 0) (fun vm0 hZ => StrChars.Road.chN hZ hwC (hw _ (List.mem_of_getElem? (i := 2) rfl)) S267.1 Yv Yc Ya (codOfL latS) (fun c q => lat_chr (latS c q)) (SC.ext w.old) hz (SF.ext w.old) hfm Yl (i := 10) (Nat.le_of_ble_eq_true rfl) rfl (by decide) (by decide)) (argsL := [.int 10]) (rest := []) (lenOf (by decide +kernel : parseMethodDescriptor "(I)C" = some ⟨[.int], (some .char)⟩) rfl) rfl rfl (hb hby at_295) (by rw [hml]; rfl) (Nat.le_of_eq rfl) (by decide) (by decide) (pc' := 298) rfl fun u311 T w P312 => ?_
            obtain rfl := P312
            show Run p e below _ T (mkF m 298 #[.val (.int p0), .val (.int p1), .val (.int p2), .val (.int p3), .val (.int 3), .val (.int v2), .val (.int v3), .val (.int v4), .val (.ref x6), .val (.ref x13), .val (.ref x24), .val (.ref x39), .val (.ref x39), .val (.ref x247), .val (.ref y264)] [.int v4])
            refine s_iload w (hb hby at_298) rfl (pc' := 300) rfl ?_
            refine s_icmp_eq w (hb hby at_300) (by decide) (pc1 := 303) rfl (pc2 := 305) rfl (fun ct313 => ?_) (fun ct313 => ?_)
            · -- ¬ (v4 = v4)
              refine s_iconst w (hb hby at_303) (v := 0) rfl (pc' := 304) rfl ?_
              exact absurd rfl ct313
            · -- v4 = v4
              refine s_iconst w (hb hby at_305) (v := 1) rfl (pc' := 306) rfl ?_
              exact w_ireturn w hEL hs hlk hret rfl (Or.inr (Or.inl rfl)) (hb hby at_306) (by decide) (by decide) rfl
set_option maxRecDepth 65536 in
set_option maxHeartbeats 40000000 in
theorem comes_1 {Post : Tables → Env → Array Value → State → Outcome → State → Prop} (hpost : ∀ tb e args s v u, (limb_1_1.after args s (.returned v) u = true ∧ limb_1_2.after args s (.returned v) u = true ∧ True) → FramedW s (.returned v) u (Jvm.fieldLocs frame_1_writes args s ++ Jvm.arrayLocs frame_1_arrays args s ++ Jvm.staticLocs frame_1_statics s) room_1.cells room_1.slots → Post tb e args s (.returned v) u) :
    ArmFor flags0 classFile x code maxLocals ret World_1 tables_1 room_1 Calls_1 rest_1 Pre_1 Post := by
  intro l hfl _ _ p e ha hc hk s m args below hf hA hF happ hP
  obtain ⟨hcalls, hrest, hpre⟩ := hP
  obtain ⟨-, -, -, hnamed, -, -, -, hat⟩ := (Spec.applies_iff hf).mp happ
  obtain ⟨hg, hn⟩ := and_e (Cond.before_iff.mp (show (Jvm.Cond.and given_1 narrow_1).before args s = true from hpre))
  obtain ⟨hcnt, hg⟩ := and_e hg
  obtain ⟨w0, w1, w2, w3, rfl⟩ : ∃ w0 w1 w2 w3 : Value, args = #[w0, w1, w2, w3] := by
    have hs : args.size = 4 := by simpa [Cond.value, given_1] using hcnt
    obtain ⟨L⟩ := args
    match L, hs with
    | [w0, w1, w2, w3], _ => exact ⟨w0, w1, w2, w3, rfl⟩
  obtain ⟨g0, hg⟩ := and_e hg
  obtain ⟨g1, hg⟩ := and_e hg
  obtain ⟨g2, hg⟩ := and_e hg
  have g3 := hg
  obtain ⟨i0, e0⟩ := is_v g0
  obtain rfl : w0 = .int i0 := Option.some.inj e0
  obtain ⟨i1, e1⟩ := is_v g1
  obtain rfl : w1 = .int i1 := Option.some.inj e1
  obtain ⟨i2, e2⟩ := is_v g2
  obtain rfl : w2 = .int i2 := Option.some.inj e2
  obtain ⟨i3, e3⟩ := is_v g3
  obtain rfl : w3 = .int i3 := Option.some.inj e3
  have hw := fun d (hd : d ∈ tables_1) => atoms_spec (ws := Jvm.Cond.code x code maxLocals ret :: tables_1) hat d (List.mem_cons_of_mem _ hd)
  have hset : ∀ d ∈ jdkStatics_1, d.before _ s = true := (atoms_of jdkStatics_1 (show (jdkStatics_1.foldr Jvm.Cond.and restOwn_1).before _ s = true from hrest)).1
  have hEL : EW s _ consts_1 := (EW.cons (hw _ (List.mem_of_getElem? (i := 46) rfl)) (by decide) (EW.cons (hw _ (List.mem_of_getElem? (i := 14) rfl)) (by decide) EW.nil))
  obtain ⟨zc, vzc⟩ := is_v (Cond.before_iff.mp (hset _ (List.mem_of_getElem? (i := 1) rfl)))
  have SC : Sta s s.heap ST "COMPACT_STRINGS" "Z" (.int zc) := Sta.start vzc (Or.inl (hset _ (List.mem_of_getElem? (i := 0) rfl)))
  have hz : ¬ zc = 0 := ne_int vzc (hset _ (List.mem_of_getElem? (i := 2) rfl))
  obtain ⟨fm, vfm, hfm⟩ := isR_v (Cond.before_iff.mp (hset _ (List.mem_of_getElem? (i := 8) rfl)))
  have SF : Sta s s.heap "jdk/internal/util/Preconditions" "SIOOBE_FORMATTER" "Ljava/util/function/BiFunction;" fm := Sta.start vfm (Or.inl (hset _ (List.mem_of_getElem? (i := 7) rfl)))
  have G : Gl s #[.int i0, .int i1, .int i2, .int i3] zc fm := ⟨hw, hEL, SC, hz, SF, hfm⟩
  have hCH : CHv s consts_1 s.vm s.heap := CHv.start hEL (fun q hq => hcalls.1 q hq) (hset _ (List.mem_of_getElem? (i := 2) rfl)) (hw _ (List.mem_of_getElem? (i := 15) rfl)) (hw _ (List.mem_of_getElem? (i := 2) rfl))
  obtain ⟨n, o, h1, h2, h3, v, L, rfl, ⟨N, -, -, ⟨-, rfl⟩, -⟩, -, hq⟩ := (rm_law (l := l) G s.heap i0 i1 i2 i3) tables_1 p e ha hc hk s m _ below hf ((Spec.applies_iff_loose hf).mp happ).1 ⟨rfl, State.Warmed39.refl s, rfl, hCH, Ext.rf _, all0, all0⟩ trivial
  refine ⟨n, _, h1, h2, h3, hpost _ _ _ _ _ _ ⟨Cond.after_iff.mpr rfl, Cond.after_iff.mpr (eq_i res_at (Term.int_eval (1)) rfl), trivial⟩ ⟨hq.1, hq.2.1, hq.2.2.1, hq.2.2.2.sift fun y hy => Or.inr (N y hy)⟩⟩
end Ow
theorem main_1_1 : Claimed_1_1 := Ow.comes_1 fun _ _ _ _ _ _ h hF => ⟨h.1, hF⟩
theorem main_1_2 : Claimed_1_2 := Ow.comes_1 fun _ _ _ _ _ _ h hF => ⟨h.2.1, hF⟩
end Jvm.Pilot.@@N@@
namespace Jvm.Pilot.@@N@@
open Jvm Jvm.ClassFile Sem Op Lib Jvm.Free Jvm.Stand Jvm.Pilot.@@N@@.Jvm.D
/-! MADE BY PROGRAM (witnessworld.py) out of the Statement's table words and the real class files: 26 classes; the members and pool entries that the words name. The judged class is class 1, her method 1. -/
namespace start1
open Jvm.ClassFile
def u (s : String) : CpInfo := .utf8 (stringToUtf16 s)
/-- a pool by its gaps: so many unusable entries, then the entry; so many at the end -/
def gap : Nat → List CpInfo → List CpInfo
  | 0, r => r
  | n + 1, r => .unusable :: gap n r
def poolList (es : List (Nat × CpInfo)) (last : Nat) : List CpInfo := es.foldr (fun e r => gap e.1 (e.2 :: r)) (gap last [])
def pool (es : List (Nat × CpInfo)) (last : Nat) : Array CpInfo := ⟨poolList es last⟩
def fileOf (pool : Array CpInfo) (this : Nat) (attrs : Array Attribute := #[]) (ms : Array MethodInfo := #[]) (fl : Nat := 33) (sup : Nat := 0) (ifs : Array Nat := #[]) (fds : Array FieldInfo := #[]) : ClassFile where
  minorVersion := 0
  majorVersion := 65
  constantPool := pool
  accessFlags := fl
  thisClass := this
  superClass := sup
  interfaces := ifs
  fields := fds
  methods := ms
  attributes := attrs
def plain (name : String) (sup : Option ClassId) : Class where
  name := name
  kind := .ordinary
  loader := none
  accessFlags := 33
  super := sup
  interfaces := #[]
  cf := none
  fields := #[]
  methods := #[]
  instanceTypes := #[]
  staticTypes := #[]
  resolved := #[]
  callSites := []
  init := .initialized
  statics := none
  mirror := none

def pool0 : Array CpInfo := pool [(5, u "<init>"), (0, u "()V"), (1, .class_ 10), (1, u "java/lang/Object")] 113

def k0c0 : Code := { maxStack := 0, maxLocals := 1, code := object_method_1_code, exceptionTable := #[], attributes := #[] }
def k0m0 : Method := { name := "<init>", desc := "()V", sig := { parameters := [], returnType := none }, accessFlags := 1, code := some k0c0 }
/-- java/lang/Object -/
def k0 : Class := { plain "java/lang/Object" none with
  accessFlags := 33
  interfaces := #[]
  cf := some (fileOf pool0 8 #[] #[{ accessFlags := 1, nameIndex := 5, descriptorIndex := 6, attributes := #[] }] 33 0 #[] #[])
  fields := #[]
  methods := #[k0m0]
  instanceTypes := #[]
  staticTypes := #[]
  resolved := Array.replicate 124 none
  statics := none }

def pool1 : Array CpInfo := pool [(2, .class_ 4), (1, u "java/lang/Object"), (0, u "<init>"), (0, u "()V"), (0, .class_ 8), (0, u "java/lang/String"), (0, .methodref 7 10), (0, .nameAndType 5 11), (0, u "([C)V"), (0, .methodref 13 14), (0, .class_ 15), (0, .nameAndType 16 17), (0, u "com/example/minder/minder/http/PdpIdentifier"), (0, u "ofHost"), (0, u "(Ljava/lang/String;)Lcom/example/minder/minder/http/PdpIdentifier;"), (0, .methodref 13 19), (0, .nameAndType 20 21), (0, u "toString"), (0, u "()Ljava/lang/String;"), (0, .methodref 7 23), (0, .nameAndType 24 25), (0, u "length"), (0, u "()I"), (0, .methodref 7 27), (0, .nameAndType 28 29), (0, u "charAt"), (0, u "(I)C"), (0, .class_ 31), (0, u "com/example/minder/minder/http/PdpIdentifierOfHostPinLaw"), (2, u "law"), (0, u "(IIII)Z")] 5

def k1m0 : Method := { name := "<init>", desc := "()V", sig := { parameters := [], returnType := none }, accessFlags := 1, code := none }
def k1c1 : Code := { maxStack := 4, maxLocals := 15, code := code, exceptionTable := #[], attributes := #[] }
def k1m1 : Method := { name := "law", desc := "(IIII)Z", sig := { parameters := [.int, .int, .int, .int], returnType := some .boolean }, accessFlags := 9, code := some k1c1 }
/-- com/example/minder/minder/http/PdpIdentifierOfHostPinLaw -/
def k1 : Class := { plain "com/example/minder/minder/http/PdpIdentifierOfHostPinLaw" (some 0) with
  accessFlags := 49
  interfaces := #[]
  cf := some (fileOf pool1 30 #[] #[{ accessFlags := 1, nameIndex := 5, descriptorIndex := 6, attributes := #[] }, { accessFlags := 9, nameIndex := 34, descriptorIndex := 35, attributes := #[] }] 49 2 #[] #[])
  fields := #[]
  methods := #[k1m0, k1m1]
  instanceTypes := #[]
  staticTypes := #[]
  resolved := Array.replicate 41 none
  statics := none }

def pool2 : Array CpInfo := pool [(1, .class_ 2), (0, u "java/io/Serializable"), (0, .class_ 4), (0, u "java/lang/Object")] 2

/-- java/io/Serializable -/
def k2 : Class := { plain "java/io/Serializable" (some 0) with
  accessFlags := 1537
  interfaces := #[]
  cf := some (fileOf pool2 1 #[] #[] 1537 3 #[] #[])
  fields := #[]
  methods := #[]
  instanceTypes := #[]
  staticTypes := #[]
  resolved := Array.replicate 7 none
  statics := none }

def pool3 : Array CpInfo := pool [(1, .class_ 2), (0, u "java/lang/Comparable"), (0, .class_ 4), (0, u "java/lang/Object")] 7

/-- java/lang/Comparable -/
def k3 : Class := { plain "java/lang/Comparable" (some 0) with
  accessFlags := 1537
  interfaces := #[]
  cf := some (fileOf pool3 1 #[] #[] 1537 3 #[] #[])
  fields := #[]
  methods := #[]
  instanceTypes := #[]
  staticTypes := #[]
  resolved := Array.replicate 12 none
  statics := none }

def pool4 : Array CpInfo := pool [(2, .class_ 4), (1, u "java/lang/CharSequence"), (42, .class_ 48), (0, u "java/lang/CharSequence$1CodePointIterator"), (10, .class_ 60), (0, u "java/lang/CharSequence$1CharIterator"), (5, .class_ 67), (0, u "java/lang/Object")] 63

/-- java/lang/CharSequence -/
def k4 : Class := { plain "java/lang/CharSequence" (some 0) with
  accessFlags := 1537
  interfaces := #[]
  cf := some (fileOf pool4 2 #[.nestMembers #[47, 59]] #[] 1537 66 #[] #[])
  fields := #[]
  methods := #[]
  instanceTypes := #[]
  staticTypes := #[]
  resolved := Array.replicate 131 none
  statics := none }

def pool5 : Array CpInfo := pool [(1, .class_ 2), (0, u "java/lang/constant/Constable"), (0, .class_ 4), (0, u "java/lang/Object")] 6

/-- java/lang/constant/Constable -/
def k5 : Class := { plain "java/lang/constant/Constable" (some 0) with
  accessFlags := 1537
  interfaces := #[]
  cf := some (fileOf pool5 1 #[] #[] 1537 3 #[] #[])
  fields := #[]
  methods := #[]
  instanceTypes := #[]
  staticTypes := #[]
  resolved := Array.replicate 11 none
  statics := none }

def pool6 : Array CpInfo := pool [(1, .class_ 2), (0, u "java/lang/constant/ConstantDesc"), (0, .class_ 4), (0, u "java/lang/Object")] 32

/-- java/lang/constant/ConstantDesc -/
def k6 : Class := { plain "java/lang/constant/ConstantDesc" (some 0) with
  accessFlags := 1537
  interfaces := #[]
  cf := some (fileOf pool6 1 #[] #[] 1537 3 #[] #[])
  fields := #[]
  methods := #[]
  instanceTypes := #[]
  staticTypes := #[]
  resolved := Array.replicate 37 none
  statics := none }

def pool7 : Array CpInfo := pool [(1, .methodref 2 3), (0, .class_ 4), (0, .nameAndType 5 6), (0, u "java/lang/Object"), (0, u "<init>"), (0, u "()V"), (0, .string 8), (0, u ""), (0, .fieldref 10 11), (0, .class_ 12), (0, .nameAndType 13 14), (0, u "java/lang/String"), (0, u "value"), (0, u "[B"), (0, .fieldref 10 16), (0, .nameAndType 17 18), (0, u "coder"), (0, u "B"), (2, u "hash"), (0, u "I"), (2, u "hashIsZero"), (0, u "Z"), (0, .methodref 10 28), (0, .nameAndType 5 29), (0, u "([CIILjava/lang/Void;)V"), (8, .fieldref 10 39), (0, .nameAndType 40 26), (0, u "COMPACT_STRINGS"), (1, .class_ 44), (1, u "java/lang/StringUTF16"), (0, u "compress"), (1, .methodref 42 48), (0, .nameAndType 49 50), (0, u "coderFromArrayLen"), (0, u "([BI)B"), (3, .methodref 55 56), (0, .class_ 57), (0, .nameAndType 58 59), (0, u "java/util/Arrays"), (0, u "copyOfRange"), (0, u "([BII)[B"), (47, .class_ 109), (1, u "java/lang/StringLatin1"), (32, u "()Z"), (34, .methodref 42 178), (0, .nameAndType 45 179), (0, u "([CII)[B"), (13, .class_ 195), (1, u "java/lang/System"), (16, .methodref 193 213), (0, .nameAndType 214 215), (0, u "arraycopy"), (0, u "(Ljava/lang/Object;ILjava/lang/Object;II)V"), (118, u "()I"), (0, .methodref 10 336), (0, .nameAndType 17 337), (0, u "()B"), (2, u "()[B"), (22, u "([BI)C"), (27, u "(II)V"), (35, u "(I)C"), (61, .methodref 10 490), (0, .nameAndType 5 491), (0, u "(Ljava/lang/AbstractStringBuilder;Ljava/lang/Void;)V"), (0, .methodref 10 493), (0, .nameAndType 494 142), (0, u "isLatin1"), (0, .methodref 107 496), (0, .nameAndType 497 363), (0, u "charAt"), (3, u "checkIndex"), (4, .nameAndType 507 334), (0, u "length"), (24, u "getBytes"), (16, .methodref 550 506), (0, .class_ 551), (0, u "java/lang/AbstractStringBuilder"), (0, .methodref 550 553), (0, .nameAndType 554 340), (0, u "getValue"), (20, .class_ 576), (0, u "java/lang/CharSequence"), (22, u "CASE_INSENSITIVE_ORDER"), (0, u "Ljava/util/Comparator;"), (220, u "([BIB)V"), (188, u "([C)V"), (36, .methodref 550 493), (5, .fieldref 1054 1055), (0, .class_ 1056), (0, .nameAndType 1057 1058), (0, u "jdk/internal/util/Preconditions"), (0, u "SIOOBE_FORMATTER"), (0, u "Ljava/util/function/BiFunction;"), (0, .methodref 1054 1060), (0, .nameAndType 501 1061), (0, u "(IILjava/util/function/BiFunction;)I"), (39, u "serialPersistentFields"), (0, u "[Ljava/io/ObjectStreamField;"), (0, .class_ 1104), (0, u "java/lang/String$CaseInsensitiveComparator"), (1, .class_ 1107), (0, u "java/io/Serializable"), (0, .class_ 1109), (0, u "java/lang/Comparable"), (0, .class_ 1111), (0, u "java/lang/constant/Constable"), (0, .class_ 1113), (0, u "java/lang/constant/ConstantDesc"), (2, u "serialVersionUID"), (0, u "J"), (3, u "REPL"), (0, u "C"), (2, u "LATIN1"), (1, u "UTF16"), (105, u "(Ljava/lang/StringBuilder;)V")] 217

def k7m0 : Method := { name := "<init>", desc := "()V", sig := { parameters := [], returnType := none }, accessFlags := 1, code := none }
def k7c1 : Code := { maxStack := 5, maxLocals := 2, code := jdk_42_method_3_code, exceptionTable := #[], attributes := #[] }
def k7m1 : Method := { name := "<init>", desc := "([C)V", sig := { parameters := [(.array .char)], returnType := none }, accessFlags := 1, code := some k7c1 }
def k7c2 : Code := { maxStack := 3, maxLocals := 2, code := jdk_42_method_53_code, exceptionTable := #[], attributes := #[] }
def k7m2 : Method := { name := "<init>", desc := "(Ljava/lang/StringBuilder;)V", sig := { parameters := [(.object "java/lang/StringBuilder")], returnType := none }, accessFlags := 1, code := some k7c2 }
def k7c3 : Code := { maxStack := 2, maxLocals := 1, code := jdk_42_method_54_code, exceptionTable := #[], attributes := #[] }
def k7m3 : Method := { name := "length", desc := "()I", sig := { parameters := [], returnType := some .int }, accessFlags := 1, code := some k7c3 }
def k7c4 : Code := { maxStack := 2, maxLocals := 2, code := jdk_42_method_56_code, exceptionTable := #[], attributes := #[] }
def k7m4 : Method := { name := "charAt", desc := "(I)C", sig := { parameters := [.int], returnType := some .char }, accessFlags := 1, code := some k7c4 }
def k7c5 : Code := { maxStack := 5, maxLocals := 4, code := jdk_42_method_147_code, exceptionTable := #[], attributes := #[] }
def k7m5 : Method := { name := "getBytes", desc := "([BIB)V", sig := { parameters := [(.array .byte), .int, .byte], returnType := none }, accessFlags := 0, code := some k7c5 }
def k7c6 : Code := { maxStack := 4, maxLocals := 6, code := jdk_42_method_149_code, exceptionTable := #[], attributes := #[] }
def k7m6 : Method := { name := "<init>", desc := "([CIILjava/lang/Void;)V", sig := { parameters := [(.array .char), .int, .int, (.object "java/lang/Void")], returnType := none }, accessFlags := 2, code := some k7c6 }
def k7c7 : Code := { maxStack := 5, maxLocals := 5, code := jdk_42_method_150_code, exceptionTable := #[], attributes := #[] }
def k7m7 : Method := { name := "<init>", desc := "(Ljava/lang/AbstractStringBuilder;Ljava/lang/Void;)V", sig := { parameters := [(.object "java/lang/AbstractStringBuilder"), (.object "java/lang/Void")], returnType := none }, accessFlags := 0, code := some k7c7 }
def k7c8 : Code := { maxStack := 1, maxLocals := 1, code := jdk_42_method_152_code, exceptionTable := #[], attributes := #[] }
def k7m8 : Method := { name := "coder", desc := "()B", sig := { parameters := [], returnType := some .byte }, accessFlags := 0, code := some k7c8 }
def k7c9 : Code := { maxStack := 1, maxLocals := 1, code := jdk_42_method_154_code, exceptionTable := #[], attributes := #[] }
def k7m9 : Method := { name := "isLatin1", desc := "()Z", sig := { parameters := [], returnType := some .boolean }, accessFlags := 0, code := some k7c9 }
def k7c10 : Code := { maxStack := 3, maxLocals := 2, code := jdk_42_method_155_code, exceptionTable := #[], attributes := #[] }
def k7m10 : Method := { name := "checkIndex", desc := "(II)V", sig := { parameters := [.int, .int], returnType := none }, accessFlags := 8, code := some k7c10 }
/-- java/lang/String -/
def k7 : Class := { plain "java/lang/String" (some 0) with
  accessFlags := 49
  interfaces := #[2, 3, 4, 5, 6]
  cf := some (fileOf pool7 10 #[.nestMembers #[1103]] #[{ accessFlags := 1, nameIndex := 5, descriptorIndex := 6, attributes := #[] }, { accessFlags := 1, nameIndex := 5, descriptorIndex := 1010, attributes := #[] }, { accessFlags := 1, nameIndex := 5, descriptorIndex := 1233, attributes := #[] }, { accessFlags := 1, nameIndex := 507, descriptorIndex := 334, attributes := #[] }, { accessFlags := 1, nameIndex := 497, descriptorIndex := 427, attributes := #[] }, { accessFlags := 0, nameIndex := 532, descriptorIndex := 821, attributes := #[] }, { accessFlags := 2, nameIndex := 5, descriptorIndex := 29, attributes := #[] }, { accessFlags := 0, nameIndex := 5, descriptorIndex := 491, attributes := #[] }, { accessFlags := 0, nameIndex := 17, descriptorIndex := 337, attributes := #[] }, { accessFlags := 0, nameIndex := 494, descriptorIndex := 142, attributes := #[] }, { accessFlags := 8, nameIndex := 501, descriptorIndex := 391, attributes := #[] }] 49 2 #[1106, 1108, 575, 1110, 1112] #[{ accessFlags := 18, nameIndex := 13, descriptorIndex := 14, attributes := #[] }, { accessFlags := 18, nameIndex := 17, descriptorIndex := 18, attributes := #[] }, { accessFlags := 2, nameIndex := 21, descriptorIndex := 22, attributes := #[] }, { accessFlags := 2, nameIndex := 25, descriptorIndex := 26, attributes := #[] }, { accessFlags := 26, nameIndex := 1116, descriptorIndex := 1117, attributes := #[] }, { accessFlags := 24, nameIndex := 40, descriptorIndex := 26, attributes := #[] }, { accessFlags := 26, nameIndex := 1101, descriptorIndex := 1102, attributes := #[] }, { accessFlags := 26, nameIndex := 1121, descriptorIndex := 1122, attributes := #[] }, { accessFlags := 25, nameIndex := 599, descriptorIndex := 600, attributes := #[] }, { accessFlags := 24, nameIndex := 1125, descriptorIndex := 18, attributes := #[] }, { accessFlags := 24, nameIndex := 1127, descriptorIndex := 18, attributes := #[] }])
  fields := #[{ name := "value", type := (.array .byte), accessFlags := 18, slot := 0, constantValue := 0 }, { name := "coder", type := .byte, accessFlags := 18, slot := 1, constantValue := 0 }, { name := "hash", type := .int, accessFlags := 2, slot := 2, constantValue := 0 }, { name := "hashIsZero", type := .boolean, accessFlags := 2, slot := 3, constantValue := 0 }, { name := "serialVersionUID", type := .long, accessFlags := 26, slot := 0, constantValue := 0 }, { name := "COMPACT_STRINGS", type := .boolean, accessFlags := 24, slot := 1, constantValue := 0 }, { name := "serialPersistentFields", type := (.array (.object "java/io/ObjectStreamField")), accessFlags := 26, slot := 2, constantValue := 0 }, { name := "REPL", type := .char, accessFlags := 26, slot := 3, constantValue := 0 }, { name := "CASE_INSENSITIVE_ORDER", type := (.object "java/util/Comparator"), accessFlags := 25, slot := 4, constantValue := 0 }, { name := "LATIN1", type := .byte, accessFlags := 24, slot := 5, constantValue := 0 }, { name := "UTF16", type := .byte, accessFlags := 24, slot := 6, constantValue := 0 }]
  methods := #[k7m0, k7m1, k7m2, k7m3, k7m4, k7m5, k7m6, k7m7, k7m8, k7m9, k7m10]
  instanceTypes := #[(.array .byte), .byte, .int, .boolean]
  staticTypes := #[.long, .boolean, (.array (.object "java/io/ObjectStreamField")), .char, (.object "java/util/Comparator"), .byte, .byte]
  resolved := Array.replicate 1451 none
  statics := some 0 }

def pool8 : Array CpInfo := pool [(1, .methodref 2 3), (0, .class_ 4), (0, .nameAndType 5 6), (0, u "java/lang/Object"), (0, u "<init>"), (0, u "()V"), (0, .fieldref 8 9), (0, .class_ 10), (0, .nameAndType 11 12), (0, u "com/example/minder/minder/http/PdpIdentifier"), (0, u "url"), (0, u "Ljava/lang/String;"), (3, .nameAndType 5 17), (0, u "(Ljava/lang/String;)V"), (4, .class_ 23), (0, u "java/lang/StringBuilder"), (0, .methodref 22 3), (2, .methodref 22 28), (0, .nameAndType 29 30), (0, u "append"), (0, u "(Ljava/lang/String;)Ljava/lang/StringBuilder;"), (3, u "()Ljava/lang/String;"), (0, .methodref 22 36), (0, .nameAndType 37 34), (0, u "toString"), (66, .string 105), (0, u "https://"), (0, .methodref 8 16), (3, u "(Ljava/lang/String;)Lcom/example/minder/minder/http/PdpIdentifier;"), (1, u "ofHost")] 2

def k8c0 : Code := { maxStack := 2, maxLocals := 2, code := prog_19_method_1_code, exceptionTable := #[], attributes := #[] }
def k8m0 : Method := { name := "<init>", desc := "(Ljava/lang/String;)V", sig := { parameters := [(.object "java/lang/String")], returnType := none }, accessFlags := 2, code := some k8c0 }
def k8c1 : Code := { maxStack := 4, maxLocals := 1, code := prog_19_method_3_code, exceptionTable := #[], attributes := #[] }
def k8m1 : Method := { name := "ofHost", desc := "(Ljava/lang/String;)Lcom/example/minder/minder/http/PdpIdentifier;", sig := { parameters := [(.object "java/lang/String")], returnType := some (.object "com/example/minder/minder/http/PdpIdentifier") }, accessFlags := 8, code := some k8c1 }
def k8c2 : Code := { maxStack := 1, maxLocals := 1, code := prog_19_method_4_code, exceptionTable := #[], attributes := #[] }
def k8m2 : Method := { name := "toString", desc := "()Ljava/lang/String;", sig := { parameters := [], returnType := some (.object "java/lang/String") }, accessFlags := 1, code := some k8c2 }
/-- com/example/minder/minder/http/PdpIdentifier -/
def k8 : Class := { plain "com/example/minder/minder/http/PdpIdentifier" (some 0) with
  accessFlags := 49
  interfaces := #[]
  cf := some (fileOf pool8 8 #[] #[{ accessFlags := 2, nameIndex := 5, descriptorIndex := 17, attributes := #[] }, { accessFlags := 8, nameIndex := 112, descriptorIndex := 110, attributes := #[] }, { accessFlags := 1, nameIndex := 37, descriptorIndex := 34, attributes := #[] }] 49 2 #[] #[{ accessFlags := 18, nameIndex := 11, descriptorIndex := 12, attributes := #[] }])
  fields := #[{ name := "url", type := (.object "java/lang/String"), accessFlags := 18, slot := 0, constantValue := 0 }]
  methods := #[k8m0, k8m1, k8m2]
  instanceTypes := #[(.object "java/lang/String")]
  staticTypes := #[]
  resolved := Array.replicate 115 none
  statics := none }

def pool9 : Array CpInfo := pool [(1, .class_ 2), (0, u "java/lang/Appendable"), (0, .class_ 4), (0, u "java/lang/Object")] 9

/-- java/lang/Appendable -/
def k9 : Class := { plain "java/lang/Appendable" (some 0) with
  accessFlags := 1537
  interfaces := #[]
  cf := some (fileOf pool9 1 #[] #[] 1537 3 #[] #[])
  fields := #[]
  methods := #[]
  instanceTypes := #[]
  staticTypes := #[]
  resolved := Array.replicate 14 none
  statics := none }

def pool10 : Array CpInfo := pool [(1, .class_ 2), (0, u "java/lang/String"), (0, .methodref 4 5), (0, .class_ 6), (0, .nameAndType 7 8), (0, u "java/lang/Object"), (0, u "<init>"), (0, u "()V"), (1, .class_ 12), (1, u "java/lang/AbstractStringBuilder"), (0, u "EMPTYVALUE"), (0, u "[B"), (0, .fieldref 10 16), (0, .nameAndType 17 14), (0, u "value"), (0, .fieldref 1 19), (0, .nameAndType 20 21), (0, u "COMPACT_STRINGS"), (0, u "Z"), (0, .fieldref 10 23), (0, .nameAndType 24 25), (0, u "coder"), (0, u "B"), (6, .methodref 1 33), (0, .nameAndType 34 35), (0, u "length"), (0, u "()I"), (4, .methodref 1 41), (0, .nameAndType 24 42), (0, u "()B"), (2, u "append"), (0, u "(Ljava/lang/String;)Ljava/lang/AbstractStringBuilder;"), (1, .class_ 49), (0, u "java/lang/CharSequence"), (19, u "(Ljava/lang/String;)V"), (5, u "maybeLatin1"), (3, .fieldref 10 80), (0, .nameAndType 81 82), (0, u "count"), (0, u "I"), (2, u "isLatin1"), (0, u "()Z"), (13, .methodref 10 101), (0, .nameAndType 102 103), (0, u "ensureCapacityInternal"), (0, u "(I)V"), (104, .methodref 10 209), (0, .nameAndType 210 211), (0, u "putStringAt"), (0, u "(ILjava/lang/String;)V"), (5, u "inflateIfNeededFor"), (2, .nameAndType 221 222), (0, u "getBytes"), (0, u "([BIB)V"), (174, .methodref 10 398), (0, .nameAndType 217 69), (0, .methodref 1 220), (3, u "()[B"), (40, .class_ 445), (0, u "java/lang/Appendable"), (106, u "getValue")] 56

def k10m0 : Method := { name := "<init>", desc := "()V", sig := { parameters := [], returnType := none }, accessFlags := 0, code := none }
def k10c1 : Code := { maxStack := 2, maxLocals := 2, code := jdk_68_method_2_code, exceptionTable := #[], attributes := #[] }
def k10m1 : Method := { name := "<init>", desc := "(I)V", sig := { parameters := [.int], returnType := none }, accessFlags := 0, code := some k10c1 }
def k10c2 : Code := { maxStack := 1, maxLocals := 1, code := jdk_68_method_6_code, exceptionTable := #[], attributes := #[] }
def k10m2 : Method := { name := "length", desc := "()I", sig := { parameters := [], returnType := some .int }, accessFlags := 1, code := some k10c2 }
def k10c3 : Code := { maxStack := 4, maxLocals := 3, code := jdk_68_method_9_code, exceptionTable := #[], attributes := #[] }
def k10m3 : Method := { name := "ensureCapacityInternal", desc := "(I)V", sig := { parameters := [.int], returnType := none }, accessFlags := 2, code := some k10c3 }
def k10c4 : Code := { maxStack := 3, maxLocals := 3, code := jdk_68_method_22_code, exceptionTable := #[], attributes := #[] }
def k10m4 : Method := { name := "append", desc := "(Ljava/lang/String;)Ljava/lang/AbstractStringBuilder;", sig := { parameters := [(.object "java/lang/String")], returnType := some (.object "java/lang/AbstractStringBuilder") }, accessFlags := 1, code := some k10c4 }
def k10c5 : Code := { maxStack := 1, maxLocals := 1, code := jdk_68_method_64_code, exceptionTable := #[], attributes := #[] }
def k10m5 : Method := { name := "getValue", desc := "()[B", sig := { parameters := [], returnType := some (.array .byte) }, accessFlags := 16, code := some k10c5 }
def k10c6 : Code := { maxStack := 1, maxLocals := 1, code := jdk_68_method_68_code, exceptionTable := #[], attributes := #[] }
def k10m6 : Method := { name := "isLatin1", desc := "()Z", sig := { parameters := [], returnType := some .boolean }, accessFlags := 16, code := some k10c6 }
def k10c7 : Code := { maxStack := 2, maxLocals := 2, code := jdk_68_method_71_code, exceptionTable := #[], attributes := #[] }
def k10m7 : Method := { name := "inflateIfNeededFor", desc := "(Ljava/lang/String;)V", sig := { parameters := [(.object "java/lang/String")], returnType := none }, accessFlags := 2, code := some k10c7 }
def k10c8 : Code := { maxStack := 4, maxLocals := 3, code := jdk_68_method_73_code, exceptionTable := #[], attributes := #[] }
def k10m8 : Method := { name := "putStringAt", desc := "(ILjava/lang/String;)V", sig := { parameters := [.int, (.object "java/lang/String")], returnType := none }, accessFlags := 2, code := some k10c8 }
/-- java/lang/AbstractStringBuilder -/
def k10 : Class := { plain "java/lang/AbstractStringBuilder" (some 0) with
  accessFlags := 1056
  interfaces := #[9, 4]
  cf := some (fileOf pool10 10 #[] #[{ accessFlags := 0, nameIndex := 7, descriptorIndex := 8, attributes := #[] }, { accessFlags := 0, nameIndex := 7, descriptorIndex := 103, attributes := #[] }, { accessFlags := 1, nameIndex := 34, descriptorIndex := 35, attributes := #[] }, { accessFlags := 2, nameIndex := 102, descriptorIndex := 103, attributes := #[] }, { accessFlags := 1, nameIndex := 45, descriptorIndex := 46, attributes := #[] }, { accessFlags := 16, nameIndex := 552, descriptorIndex := 403, attributes := #[] }, { accessFlags := 16, nameIndex := 85, descriptorIndex := 86, attributes := #[] }, { accessFlags := 2, nameIndex := 217, descriptorIndex := 69, attributes := #[] }, { accessFlags := 2, nameIndex := 210, descriptorIndex := 211, attributes := #[] }] 1056 4 #[444, 48] #[{ accessFlags := 0, nameIndex := 17, descriptorIndex := 14, attributes := #[] }, { accessFlags := 0, nameIndex := 24, descriptorIndex := 25, attributes := #[] }, { accessFlags := 0, nameIndex := 75, descriptorIndex := 21, attributes := #[] }, { accessFlags := 0, nameIndex := 81, descriptorIndex := 82, attributes := #[] }, { accessFlags := 26, nameIndex := 13, descriptorIndex := 14, attributes := #[] }])
  fields := #[{ name := "value", type := (.array .byte), accessFlags := 0, slot := 0, constantValue := 0 }, { name := "coder", type := .byte, accessFlags := 0, slot := 1, constantValue := 0 }, { name := "maybeLatin1", type := .boolean, accessFlags := 0, slot := 2, constantValue := 0 }, { name := "count", type := .int, accessFlags := 0, slot := 3, constantValue := 0 }, { name := "EMPTYVALUE", type := (.array .byte), accessFlags := 26, slot := 0, constantValue := 0 }]
  methods := #[k10m0, k10m1, k10m2, k10m3, k10m4, k10m5, k10m6, k10m7, k10m8]
  instanceTypes := #[(.array .byte), .byte, .boolean, .int]
  staticTypes := #[(.array .byte)]
  resolved := Array.replicate 609 none
  statics := none }

def pool11 : Array CpInfo := pool [(1, .methodref 2 3), (0, .class_ 4), (0, .nameAndType 5 6), (0, u "java/lang/AbstractStringBuilder"), (0, u "<init>"), (0, u "(I)V"), (11, .class_ 20), (1, u "java/lang/String"), (3, .class_ 26), (1, u "java/lang/StringBuilder"), (0, u "append"), (0, u "(Ljava/lang/String;)Ljava/lang/StringBuilder;"), (0, .methodref 2 30), (0, .nameAndType 27 31), (0, u "(Ljava/lang/String;)Ljava/lang/AbstractStringBuilder;"), (105, .methodref 18 138), (0, .nameAndType 5 139), (0, u "(Ljava/lang/StringBuilder;)V"), (5, u "()V"), (10, u "()I"), (186, .methodref 2 344), (0, .nameAndType 345 156), (0, u "length"), (3, .class_ 350), (0, u "java/lang/Appendable"), (0, .class_ 352), (0, u "java/io/Serializable"), (0, .class_ 354), (0, u "java/lang/Comparable"), (0, .class_ 356), (0, u "java/lang/CharSequence"), (0, u "serialVersionUID"), (0, u "J"), (40, u "toString"), (0, u "()Ljava/lang/String;")] 21

def k11c0 : Code := { maxStack := 2, maxLocals := 1, code := jdk_67_method_1_code, exceptionTable := #[], attributes := #[] }
def k11m0 : Method := { name := "<init>", desc := "()V", sig := { parameters := [], returnType := none }, accessFlags := 1, code := some k11c0 }
def k11c1 : Code := { maxStack := 2, maxLocals := 2, code := jdk_67_method_7_code, exceptionTable := #[], attributes := #[] }
def k11m1 : Method := { name := "append", desc := "(Ljava/lang/String;)Ljava/lang/StringBuilder;", sig := { parameters := [(.object "java/lang/String")], returnType := some (.object "java/lang/StringBuilder") }, accessFlags := 1, code := some k11c1 }
def k11c2 : Code := { maxStack := 3, maxLocals := 1, code := jdk_67_method_42_code, exceptionTable := #[], attributes := #[] }
def k11m2 : Method := { name := "toString", desc := "()Ljava/lang/String;", sig := { parameters := [], returnType := some (.object "java/lang/String") }, accessFlags := 1, code := some k11c2 }
def k11c3 : Code := { maxStack := 1, maxLocals := 1, code := jdk_67_method_93_code, exceptionTable := #[], attributes := #[] }
def k11m3 : Method := { name := "length", desc := "()I", sig := { parameters := [], returnType := some .int }, accessFlags := 4161, code := some k11c3 }
/-- java/lang/StringBuilder -/
def k11 : Class := { plain "java/lang/StringBuilder" (some 10) with
  accessFlags := 49
  interfaces := #[9, 2, 3, 4]
  cf := some (fileOf pool11 24 #[] #[{ accessFlags := 1, nameIndex := 5, descriptorIndex := 145, attributes := #[] }, { accessFlags := 1, nameIndex := 27, descriptorIndex := 28, attributes := #[] }, { accessFlags := 1, nameIndex := 399, descriptorIndex := 400, attributes := #[] }, { accessFlags := 4161, nameIndex := 345, descriptorIndex := 156, attributes := #[] }] 49 2 #[349, 351, 353, 355] #[{ accessFlags := 24, nameIndex := 357, descriptorIndex := 358, attributes := #[] }])
  fields := #[{ name := "serialVersionUID", type := .long, accessFlags := 24, slot := 0, constantValue := 0 }]
  methods := #[k11m0, k11m1, k11m2, k11m3]
  instanceTypes := #[(.array .byte), .byte, .boolean, .int]
  staticTypes := #[.long]
  resolved := Array.replicate 422 none
  statics := none }

def pool12 : Array CpInfo := pool [(2, .class_ 4), (1, u "java/lang/Object"), (0, u "<init>"), (0, u "()V"), (1, .class_ 10), (1, u "java/lang/System"), (0, u "allowSecurityManager"), (0, u "I"), (16, u "cons"), (0, u "Ljava/io/Console;"), (77, .class_ 110), (1, u "java/lang/System$CallersHolder"), (43, u "initialErrStream"), (0, u "Ljava/io/PrintStream;"), (19, u "security"), (0, u "Ljava/lang/SecurityManager;"), (31, .class_ 209), (0, u "java/lang/System$1"), (7, u "props"), (0, u "Ljava/util/Properties;"), (2, u "lineSeparator"), (0, u "Ljava/lang/String;"), (96, .class_ 321), (1, u "java/lang/System$LoggerFinder"), (5, .class_ 328), (0, u "java/lang/System$Logger"), (67, u "err"), (2, u "out"), (91, u "notSupportedJnuEncoding"), (15, u "in"), (17, u "initialIn"), (0, u "Ljava/io/InputStream;"), (35, u "bootLayer"), (0, u "Ljava/lang/ModuleLayer;"), (99, .class_ 664), (0, u "java/lang/System$2"), (9, u "NEVER"), (2, u "MAYBE"), (49, u "arraycopy"), (0, u "(Ljava/lang/Object;ILjava/lang/Object;II)V"), (72, .class_ 802), (0, u "java/lang/System$Logger$Level")] 31

def k12m0 : Method := { name := "<init>", desc := "()V", sig := { parameters := [], returnType := none }, accessFlags := 2, code := none }
def k12m1 : Method := { name := "arraycopy", desc := "(Ljava/lang/Object;ILjava/lang/Object;II)V", sig := { parameters := [(.object "java/lang/Object"), .int, (.object "java/lang/Object"), .int, .int], returnType := none }, accessFlags := 265, code := none }
/-- java/lang/System -/
def k12 : Class := { plain "java/lang/System" (some 0) with
  accessFlags := 49
  interfaces := #[]
  cf := some (fileOf pool12 8 #[.nestMembers #[319, 327, 801, 108, 663, 208]] #[{ accessFlags := 2, nameIndex := 5, descriptorIndex := 6, attributes := #[] }, { accessFlags := 265, nameIndex := 727, descriptorIndex := 728, attributes := #[] }] 49 2 #[] #[{ accessFlags := 25, nameIndex := 507, descriptorIndex := 526, attributes := #[] }, { accessFlags := 25, nameIndex := 399, descriptorIndex := 155, attributes := #[] }, { accessFlags := 25, nameIndex := 396, descriptorIndex := 155, attributes := #[] }, { accessFlags := 10, nameIndex := 525, descriptorIndex := 526, attributes := #[] }, { accessFlags := 26, nameIndex := 674, descriptorIndex := 12, attributes := #[] }, { accessFlags := 26, nameIndex := 677, descriptorIndex := 12, attributes := #[] }, { accessFlags := 10, nameIndex := 11, descriptorIndex := 12, attributes := #[] }, { accessFlags := 74, nameIndex := 175, descriptorIndex := 176, attributes := #[] }, { accessFlags := 10, nameIndex := 491, descriptorIndex := 222, attributes := #[] }, { accessFlags := 74, nameIndex := 29, descriptorIndex := 30, attributes := #[] }, { accessFlags := 74, nameIndex := 154, descriptorIndex := 155, attributes := #[] }, { accessFlags := 10, nameIndex := 217, descriptorIndex := 218, attributes := #[] }, { accessFlags := 10, nameIndex := 221, descriptorIndex := 222, attributes := #[] }, { accessFlags := 8, nameIndex := 562, descriptorIndex := 563, attributes := #[] }])
  fields := #[{ name := "in", type := (.object "java/io/InputStream"), accessFlags := 25, slot := 0, constantValue := 0 }, { name := "out", type := (.object "java/io/PrintStream"), accessFlags := 25, slot := 1, constantValue := 0 }, { name := "err", type := (.object "java/io/PrintStream"), accessFlags := 25, slot := 2, constantValue := 0 }, { name := "initialIn", type := (.object "java/io/InputStream"), accessFlags := 10, slot := 3, constantValue := 0 }, { name := "NEVER", type := .int, accessFlags := 26, slot := 4, constantValue := 0 }, { name := "MAYBE", type := .int, accessFlags := 26, slot := 5, constantValue := 0 }, { name := "allowSecurityManager", type := .int, accessFlags := 10, slot := 6, constantValue := 0 }, { name := "security", type := (.object "java/lang/SecurityManager"), accessFlags := 74, slot := 7, constantValue := 0 }, { name := "notSupportedJnuEncoding", type := (.object "java/lang/String"), accessFlags := 10, slot := 8, constantValue := 0 }, { name := "cons", type := (.object "java/io/Console"), accessFlags := 74, slot := 9, constantValue := 0 }, { name := "initialErrStream", type := (.object "java/io/PrintStream"), accessFlags := 74, slot := 10, constantValue := 0 }, { name := "props", type := (.object "java/util/Properties"), accessFlags := 10, slot := 11, constantValue := 0 }, { name := "lineSeparator", type := (.object "java/lang/String"), accessFlags := 10, slot := 12, constantValue := 0 }, { name := "bootLayer", type := (.object "java/lang/ModuleLayer"), accessFlags := 8, slot := 13, constantValue := 0 }]
  methods := #[k12m0, k12m1]
  instanceTypes := #[]
  staticTypes := #[(.object "java/io/InputStream"), (.object "java/io/PrintStream"), (.object "java/io/PrintStream"), (.object "java/io/InputStream"), .int, .int, .int, (.object "java/lang/SecurityManager"), (.object "java/lang/String"), (.object "java/io/Console"), (.object "java/io/PrintStream"), (.object "java/util/Properties"), (.object "java/lang/String"), (.object "java/lang/ModuleLayer")]
  resolved := Array.replicate 834 none
  statics := none }

def pool13 : Array CpInfo := pool [(2, .class_ 4), (1, u "java/lang/Object"), (0, u "<init>"), (0, u "()V"), (7, .class_ 16), (1, u "java/util/Arrays"), (57, .class_ 76), (1, u "java/util/Arrays$NaturalOrder"), (36, .class_ 115), (1, u "java/util/Arrays$LegacyMergeSort"), (1, u "Z"), (21, u "copyOfRange"), (10, .methodref 151 152), (0, .class_ 153), (0, .nameAndType 154 155), (0, u "java/lang/System"), (0, u "arraycopy"), (0, u "(Ljava/lang/Object;ILjava/lang/Object;II)V"), (148, .methodref 305 306), (0, .class_ 307), (0, .nameAndType 308 309), (0, u "java/lang/Math"), (0, u "min"), (0, u "(II)I"), (29, .methodref 14 340), (0, .nameAndType 341 342), (0, u "copyOfRangeByte"), (0, u "([BII)[B"), (0, .methodref 14 344), (0, .nameAndType 345 346), (0, u "checkLength"), (0, u "(II)V"), (28, .class_ 376), (0, u "java/util/Arrays$ArrayList"), (68, u "$assertionsDisabled"), (269, u "MIN_ARRAY_SORT_GRAN"), (0, u "I"), (2, u "INSERTIONSORT_THRESHOLD"), (255, .class_ 976), (0, u "java/util/Arrays$ArrayItr")] 52

def k13m0 : Method := { name := "<init>", desc := "()V", sig := { parameters := [], returnType := none }, accessFlags := 2, code := none }
def k13c1 : Code := { maxStack := 4, maxLocals := 2, code := jdk_65_method_131_code, exceptionTable := #[], attributes := #[] }
def k13m1 : Method := { name := "checkLength", desc := "(II)V", sig := { parameters := [.int, .int], returnType := none }, accessFlags := 10, code := some k13c1 }
def k13c2 : Code := { maxStack := 3, maxLocals := 3, code := jdk_65_method_132_code, exceptionTable := #[], attributes := #[] }
def k13m2 : Method := { name := "copyOfRange", desc := "([BII)[B", sig := { parameters := [(.array .byte), .int, .int], returnType := some (.array .byte) }, accessFlags := 9, code := some k13c2 }
def k13c3 : Code := { maxStack := 6, maxLocals := 5, code := jdk_65_method_133_code, exceptionTable := #[], attributes := #[] }
def k13m3 : Method := { name := "copyOfRangeByte", desc := "([BII)[B", sig := { parameters := [(.array .byte), .int, .int], returnType := some (.array .byte) }, accessFlags := 10, code := some k13c3 }
/-- java/util/Arrays -/
def k13 : Class := { plain "java/util/Arrays" (some 0) with
  accessFlags := 49
  interfaces := #[]
  cf := some (fileOf pool13 14 #[.nestMembers #[975, 375, 113, 74]] #[{ accessFlags := 2, nameIndex := 5, descriptorIndex := 6, attributes := #[] }, { accessFlags := 10, nameIndex := 345, descriptorIndex := 346, attributes := #[] }, { accessFlags := 9, nameIndex := 139, descriptorIndex := 342, attributes := #[] }, { accessFlags := 10, nameIndex := 341, descriptorIndex := 342, attributes := #[] }] 49 2 #[] #[{ accessFlags := 26, nameIndex := 715, descriptorIndex := 716, attributes := #[] }, { accessFlags := 26, nameIndex := 719, descriptorIndex := 716, attributes := #[] }, { accessFlags := 4120, nameIndex := 445, descriptorIndex := 117, attributes := #[] }])
  fields := #[{ name := "MIN_ARRAY_SORT_GRAN", type := .int, accessFlags := 26, slot := 0, constantValue := 0 }, { name := "INSERTIONSORT_THRESHOLD", type := .int, accessFlags := 26, slot := 1, constantValue := 0 }, { name := "$assertionsDisabled", type := .boolean, accessFlags := 4120, slot := 2, constantValue := 0 }]
  methods := #[k13m0, k13m1, k13m2, k13m3]
  instanceTypes := #[]
  staticTypes := #[.int, .int, .boolean]
  resolved := Array.replicate 1029 none
  statics := none }

def pool14 : Array CpInfo := pool [(1, .class_ 2), (0, u "java/lang/Math"), (1, .class_ 6), (1, u "java/lang/Object"), (0, u "<init>"), (0, u "()V"), (89, .class_ 100), (1, u "java/lang/Math$RandomNumberGeneratorHolder"), (71, u "negativeZeroFloatBits"), (0, u "J"), (2, u "negativeZeroDoubleBits"), (24, u "min"), (43, u "$assertionsDisabled"), (0, u "Z"), (88, u "(II)I"), (2, u "twoToTheDoubleScaleDown"), (0, u "D"), (4, u "twoToTheDoubleScaleUp"), (9, u "E"), (3, u "PI"), (2, u "TAU"), (2, u "DEGREES_TO_RADIANS"), (0, u "RADIANS_TO_DEGREES")] 94

def k14m0 : Method := { name := "<init>", desc := "()V", sig := { parameters := [], returnType := none }, accessFlags := 2, code := none }
def k14c1 : Code := { maxStack := 2, maxLocals := 2, code := jdk_29_method_69_code, exceptionTable := #[], attributes := #[] }
def k14m1 : Method := { name := "min", desc := "(II)I", sig := { parameters := [.int, .int], returnType := some .int }, accessFlags := 9, code := some k14c1 }
/-- java/lang/Math -/
def k14 : Class := { plain "java/lang/Math" (some 0) with
  accessFlags := 49
  interfaces := #[]
  cf := some (fileOf pool14 1 #[.nestMembers #[98]] #[{ accessFlags := 2, nameIndex := 7, descriptorIndex := 8, attributes := #[] }, { accessFlags := 9, nameIndex := 201, descriptorIndex := 335, attributes := #[] }] 49 4 #[] #[{ accessFlags := 25, nameIndex := 354, descriptorIndex := 339, attributes := #[] }, { accessFlags := 25, nameIndex := 358, descriptorIndex := 339, attributes := #[] }, { accessFlags := 25, nameIndex := 361, descriptorIndex := 339, attributes := #[] }, { accessFlags := 26, nameIndex := 364, descriptorIndex := 339, attributes := #[] }, { accessFlags := 26, nameIndex := 365, descriptorIndex := 339, attributes := #[] }, { accessFlags := 26, nameIndex := 172, descriptorIndex := 173, attributes := #[] }, { accessFlags := 26, nameIndex := 176, descriptorIndex := 173, attributes := #[] }, { accessFlags := 8, nameIndex := 344, descriptorIndex := 339, attributes := #[] }, { accessFlags := 8, nameIndex := 338, descriptorIndex := 339, attributes := #[] }, { accessFlags := 4120, nameIndex := 245, descriptorIndex := 246, attributes := #[] }])
  fields := #[{ name := "E", type := .double, accessFlags := 25, slot := 0, constantValue := 0 }, { name := "PI", type := .double, accessFlags := 25, slot := 1, constantValue := 0 }, { name := "TAU", type := .double, accessFlags := 25, slot := 2, constantValue := 0 }, { name := "DEGREES_TO_RADIANS", type := .double, accessFlags := 26, slot := 3, constantValue := 0 }, { name := "RADIANS_TO_DEGREES", type := .double, accessFlags := 26, slot := 4, constantValue := 0 }, { name := "negativeZeroFloatBits", type := .long, accessFlags := 26, slot := 5, constantValue := 0 }, { name := "negativeZeroDoubleBits", type := .long, accessFlags := 26, slot := 6, constantValue := 0 }, { name := "twoToTheDoubleScaleUp", type := .double, accessFlags := 8, slot := 7, constantValue := 0 }, { name := "twoToTheDoubleScaleDown", type := .double, accessFlags := 8, slot := 8, constantValue := 0 }, { name := "$assertionsDisabled", type := .boolean, accessFlags := 4120, slot := 9, constantValue := 0 }]
  methods := #[k14m0, k14m1]
  instanceTypes := #[]
  staticTypes := #[.double, .double, .double, .double, .double, .long, .long, .double, .double, .boolean]
  resolved := Array.replicate 460 none
  statics := none }

def pool15 : Array CpInfo := pool [(1, .class_ 2), (0, u "java/lang/String"), (1, .class_ 6), (1, u "java/lang/Object"), (0, u "<init>"), (0, u "()V"), (0, .methodref 1 10), (0, .nameAndType 11 12), (0, u "checkIndex"), (0, u "(II)V"), (1, .class_ 16), (1, u "java/lang/StringLatin1"), (36, u "([BI)C"), (67, u "$assertionsDisabled"), (0, u "Z"), (98, .class_ 223), (1, u "java/lang/StringLatin1$LinesSpliterator"), (28, u "charAt"), (137, .class_ 391), (0, u "java/lang/StringLatin1$CharsSpliterator")] 3

def k15m0 : Method := { name := "<init>", desc := "()V", sig := { parameters := [], returnType := none }, accessFlags := 0, code := none }
def k15c1 : Code := { maxStack := 2, maxLocals := 2, code := jdk_43_method_2_code, exceptionTable := #[], attributes := #[] }
def k15m1 : Method := { name := "charAt", desc := "([BI)C", sig := { parameters := [(.array .byte), .int], returnType := some .char }, accessFlags := 9, code := some k15c1 }
/-- java/lang/StringLatin1 -/
def k15 : Class := { plain "java/lang/StringLatin1" (some 0) with
  accessFlags := 48
  interfaces := #[]
  cf := some (fileOf pool15 14 #[.nestMembers #[390, 221]] #[{ accessFlags := 0, nameIndex := 7, descriptorIndex := 8, attributes := #[] }, { accessFlags := 9, nameIndex := 252, descriptorIndex := 53, attributes := #[] }] 48 4 #[] #[{ accessFlags := 4120, nameIndex := 121, descriptorIndex := 122, attributes := #[] }])
  fields := #[{ name := "$assertionsDisabled", type := .boolean, accessFlags := 4120, slot := 0, constantValue := 0 }]
  methods := #[k15m0, k15m1]
  instanceTypes := #[]
  staticTypes := #[.boolean]
  resolved := Array.replicate 395 none
  statics := none }

def pool16 : Array CpInfo := pool [(2, .class_ 4), (1, u "java/lang/Object"), (0, u "<init>"), (0, u "()V"), (17, .class_ 26), (1, u "jdk/internal/util/Preconditions"), (6, u "checkIndex"), (21, .class_ 56), (0, u "jdk/internal/util/Preconditions$4"), (57, .class_ 115), (0, u "jdk/internal/util/Preconditions$1"), (7, u "SIOOBE_FORMATTER"), (0, u "Ljava/util/function/BiFunction;"), (0, .class_ 126), (0, u "jdk/internal/util/Preconditions$2"), (3, u "AIOOBE_FORMATTER"), (0, .class_ 132), (0, u "jdk/internal/util/Preconditions$3"), (3, u "IOOBE_FORMATTER"), (41, u "(IILjava/util/function/BiFunction;)I")] 15

def k16m0 : Method := { name := "<init>", desc := "()V", sig := { parameters := [], returnType := none }, accessFlags := 1, code := none }
def k16c1 : Code := { maxStack := 3, maxLocals := 3, code := jdk_41_method_11_code, exceptionTable := #[], attributes := #[] }
def k16m1 : Method := { name := "checkIndex", desc := "(IILjava/util/function/BiFunction;)I", sig := { parameters := [.int, .int, (.object "java/util/function/BiFunction")], returnType := some .int }, accessFlags := 9, code := some k16c1 }
/-- jdk/internal/util/Preconditions -/
def k16 : Class := { plain "jdk/internal/util/Preconditions" (some 0) with
  accessFlags := 33
  interfaces := #[]
  cf := some (fileOf pool16 24 #[.nestMembers #[55, 131, 125, 114]] #[{ accessFlags := 1, nameIndex := 5, descriptorIndex := 6, attributes := #[] }, { accessFlags := 9, nameIndex := 33, descriptorIndex := 178, attributes := #[] }] 33 2 #[] #[{ accessFlags := 25, nameIndex := 123, descriptorIndex := 124, attributes := #[] }, { accessFlags := 25, nameIndex := 130, descriptorIndex := 124, attributes := #[] }, { accessFlags := 25, nameIndex := 136, descriptorIndex := 124, attributes := #[] }])
  fields := #[{ name := "SIOOBE_FORMATTER", type := (.object "java/util/function/BiFunction"), accessFlags := 25, slot := 0, constantValue := 0 }, { name := "AIOOBE_FORMATTER", type := (.object "java/util/function/BiFunction"), accessFlags := 25, slot := 1, constantValue := 0 }, { name := "IOOBE_FORMATTER", type := (.object "java/util/function/BiFunction"), accessFlags := 25, slot := 2, constantValue := 0 }]
  methods := #[k16m0, k16m1]
  instanceTypes := #[]
  staticTypes := #[(.object "java/util/function/BiFunction"), (.object "java/util/function/BiFunction"), (.object "java/util/function/BiFunction")]
  resolved := Array.replicate 194 none
  statics := some 1 }

def pool17 : Array CpInfo := pool [(6, .class_ 8), (1, u "java/lang/Object"), (0, u "<init>"), (0, u "()V"), (1, .class_ 14), (1, u "java/lang/StringUTF16"), (31, u "$assertionsDisabled"), (0, u "Z"), (13, u "HI_BYTE_SHIFT"), (0, u "I"), (2, u "LO_BYTE_SHIFT"), (49, .methodref 12 116), (0, .nameAndType 117 118), (0, u "compress"), (0, u "([CI[BII)I"), (3, u "([CII)[B"), (138, u "coderFromArrayLen"), (0, u "([BI)B"), (106, .class_ 371), (1, u "java/lang/StringUTF16$LinesSpliterator"), (58, u "MAX_LENGTH"), (196, .class_ 628), (0, u "java/lang/StringUTF16$CodePointsSpliterator"), (0, .class_ 630), (0, u "java/lang/StringUTF16$CharsSpliterator")] 4

def k17m0 : Method := { name := "<init>", desc := "()V", sig := { parameters := [], returnType := none }, accessFlags := 0, code := none }
def k17c1 : Code := { maxStack := 2, maxLocals := 2, code := jdk_52_method_15_code, exceptionTable := #[], attributes := #[] }
def k17m1 : Method := { name := "coderFromArrayLen", desc := "([BI)B", sig := { parameters := [(.array .byte), .int], returnType := some .byte }, accessFlags := 8, code := some k17c1 }
def k17c2 : Code := { maxStack := 5, maxLocals := 6, code := jdk_52_method_16_code, exceptionTable := #[], attributes := #[] }
def k17m2 : Method := { name := "compress", desc := "([CII)[B", sig := { parameters := [(.array .char), .int, .int], returnType := some (.array .byte) }, accessFlags := 9, code := some k17c2 }
def k17c3 : Code := { maxStack := 3, maxLocals := 7, code := jdk_52_method_21_code, exceptionTable := #[], attributes := #[] }
def k17m3 : Method := { name := "compress", desc := "([CI[BII)I", sig := { parameters := [(.array .char), .int, (.array .byte), .int, .int], returnType := some .int }, accessFlags := 9, code := some k17c3 }
/-- java/lang/StringUTF16 -/
def k17 : Class := { plain "java/lang/StringUTF16" (some 0) with
  accessFlags := 48
  interfaces := #[]
  cf := some (fileOf pool17 12 #[.nestMembers #[627, 629, 369]] #[{ accessFlags := 0, nameIndex := 9, descriptorIndex := 10, attributes := #[] }, { accessFlags := 8, nameIndex := 261, descriptorIndex := 262, attributes := #[] }, { accessFlags := 9, nameIndex := 117, descriptorIndex := 122, attributes := #[] }, { accessFlags := 9, nameIndex := 117, descriptorIndex := 118, attributes := #[] }] 48 6 #[] #[{ accessFlags := 26, nameIndex := 61, descriptorIndex := 62, attributes := #[] }, { accessFlags := 26, nameIndex := 65, descriptorIndex := 62, attributes := #[] }, { accessFlags := 24, nameIndex := 430, descriptorIndex := 62, attributes := #[] }, { accessFlags := 4120, nameIndex := 46, descriptorIndex := 47, attributes := #[] }])
  fields := #[{ name := "HI_BYTE_SHIFT", type := .int, accessFlags := 26, slot := 0, constantValue := 0 }, { name := "LO_BYTE_SHIFT", type := .int, accessFlags := 26, slot := 1, constantValue := 0 }, { name := "MAX_LENGTH", type := .int, accessFlags := 24, slot := 2, constantValue := 0 }, { name := "$assertionsDisabled", type := .boolean, accessFlags := 4120, slot := 3, constantValue := 0 }]
  methods := #[k17m0, k17m1, k17m2, k17m3]
  instanceTypes := #[]
  staticTypes := #[.int, .int, .int, .boolean]
  resolved := Array.replicate 635 none
  statics := none }

def pool18 : Array CpInfo := pool [(9, u "<init>"), (6, .class_ 18), (1, u "java/lang/Object"), (0, u "()V"), (1, .class_ 23), (1, u "jdk/internal/util/ArraysSupport"), (0, u "LOG2_ARRAY_LONG_INDEX_SCALE"), (0, u "I"), (2, u "U"), (0, u "Ljdk/internal/misc/Unsafe;"), (8, u "BIG_ENDIAN"), (0, u "Z"), (8, u "LOG2_BYTE_BIT_SIZE"), (4, u "LOG2_ARRAY_INT_INDEX_SCALE"), (54, u "JLA"), (0, u "Ljdk/internal/access/JavaLangAccess;"), (11, u "LOG2_ARRAY_BOOLEAN_INDEX_SCALE"), (9, u "LOG2_ARRAY_BYTE_INDEX_SCALE"), (5, u "LOG2_ARRAY_CHAR_INDEX_SCALE"), (5, u "LOG2_ARRAY_SHORT_INDEX_SCALE"), (18, u "LOG2_ARRAY_FLOAT_INDEX_SCALE"), (24, u "LOG2_ARRAY_DOUBLE_INDEX_SCALE"), (89, u "T_BOOLEAN"), (2, u "T_CHAR"), (1, u "T_FLOAT"), (1, u "T_DOUBLE"), (1, u "T_BYTE"), (1, u "T_SHORT"), (1, u "T_INT"), (1, u "T_LONG"), (1, u "SOFT_MAX_ARRAY_LENGTH")] 83

def k18m0 : Method := { name := "<init>", desc := "()V", sig := { parameters := [], returnType := none }, accessFlags := 2, code := none }
/-- jdk/internal/util/ArraysSupport -/
def k18 : Class := { plain "jdk/internal/util/ArraysSupport" (some 0) with
  accessFlags := 33
  interfaces := #[]
  cf := some (fileOf pool18 21 #[] #[{ accessFlags := 2, nameIndex := 9, descriptorIndex := 19, attributes := #[] }] 33 16 #[] #[{ accessFlags := 24, nameIndex := 28, descriptorIndex := 29, attributes := #[] }, { accessFlags := 26, nameIndex := 38, descriptorIndex := 39, attributes := #[] }, { accessFlags := 25, nameIndex := 121, descriptorIndex := 25, attributes := #[] }, { accessFlags := 25, nameIndex := 131, descriptorIndex := 25, attributes := #[] }, { accessFlags := 25, nameIndex := 137, descriptorIndex := 25, attributes := #[] }, { accessFlags := 25, nameIndex := 143, descriptorIndex := 25, attributes := #[] }, { accessFlags := 25, nameIndex := 53, descriptorIndex := 25, attributes := #[] }, { accessFlags := 25, nameIndex := 24, descriptorIndex := 25, attributes := #[] }, { accessFlags := 25, nameIndex := 162, descriptorIndex := 25, attributes := #[] }, { accessFlags := 25, nameIndex := 187, descriptorIndex := 25, attributes := #[] }, { accessFlags := 26, nameIndex := 48, descriptorIndex := 25, attributes := #[] }, { accessFlags := 25, nameIndex := 277, descriptorIndex := 25, attributes := #[] }, { accessFlags := 25, nameIndex := 280, descriptorIndex := 25, attributes := #[] }, { accessFlags := 25, nameIndex := 282, descriptorIndex := 25, attributes := #[] }, { accessFlags := 25, nameIndex := 284, descriptorIndex := 25, attributes := #[] }, { accessFlags := 25, nameIndex := 286, descriptorIndex := 25, attributes := #[] }, { accessFlags := 25, nameIndex := 288, descriptorIndex := 25, attributes := #[] }, { accessFlags := 25, nameIndex := 290, descriptorIndex := 25, attributes := #[] }, { accessFlags := 25, nameIndex := 292, descriptorIndex := 25, attributes := #[] }, { accessFlags := 26, nameIndex := 108, descriptorIndex := 109, attributes := #[] }, { accessFlags := 25, nameIndex := 294, descriptorIndex := 25, attributes := #[] }])
  fields := #[{ name := "U", type := (.object "jdk/internal/misc/Unsafe"), accessFlags := 24, slot := 0, constantValue := 0 }, { name := "BIG_ENDIAN", type := .boolean, accessFlags := 26, slot := 1, constantValue := 0 }, { name := "LOG2_ARRAY_BOOLEAN_INDEX_SCALE", type := .int, accessFlags := 25, slot := 2, constantValue := 0 }, { name := "LOG2_ARRAY_BYTE_INDEX_SCALE", type := .int, accessFlags := 25, slot := 3, constantValue := 0 }, { name := "LOG2_ARRAY_CHAR_INDEX_SCALE", type := .int, accessFlags := 25, slot := 4, constantValue := 0 }, { name := "LOG2_ARRAY_SHORT_INDEX_SCALE", type := .int, accessFlags := 25, slot := 5, constantValue := 0 }, { name := "LOG2_ARRAY_INT_INDEX_SCALE", type := .int, accessFlags := 25, slot := 6, constantValue := 0 }, { name := "LOG2_ARRAY_LONG_INDEX_SCALE", type := .int, accessFlags := 25, slot := 7, constantValue := 0 }, { name := "LOG2_ARRAY_FLOAT_INDEX_SCALE", type := .int, accessFlags := 25, slot := 8, constantValue := 0 }, { name := "LOG2_ARRAY_DOUBLE_INDEX_SCALE", type := .int, accessFlags := 25, slot := 9, constantValue := 0 }, { name := "LOG2_BYTE_BIT_SIZE", type := .int, accessFlags := 26, slot := 10, constantValue := 0 }, { name := "T_BOOLEAN", type := .int, accessFlags := 25, slot := 11, constantValue := 0 }, { name := "T_CHAR", type := .int, accessFlags := 25, slot := 12, constantValue := 0 }, { name := "T_FLOAT", type := .int, accessFlags := 25, slot := 13, constantValue := 0 }, { name := "T_DOUBLE", type := .int, accessFlags := 25, slot := 14, constantValue := 0 }, { name := "T_BYTE", type := .int, accessFlags := 25, slot := 15, constantValue := 0 }, { name := "T_SHORT", type := .int, accessFlags := 25, slot := 16, constantValue := 0 }, { name := "T_INT", type := .int, accessFlags := 25, slot := 17, constantValue := 0 }, { name := "T_LONG", type := .int, accessFlags := 25, slot := 18, constantValue := 0 }, { name := "JLA", type := (.object "jdk/internal/access/JavaLangAccess"), accessFlags := 26, slot := 19, constantValue := 0 }, { name := "SOFT_MAX_ARRAY_LENGTH", type := .int, accessFlags := 25, slot := 20, constantValue := 0 }]
  methods := #[k18m0]
  instanceTypes := #[]
  staticTypes := #[(.object "jdk/internal/misc/Unsafe"), .boolean, .int, .int, .int, .int, .int, .int, .int, .int, .int, .int, .int, .int, .int, .int, .int, .int, .int, (.object "jdk/internal/access/JavaLangAccess"), .int]
  resolved := Array.replicate 378 none
  statics := none }

def pool19 : Array CpInfo := pool [(1, u "java/lang/Cloneable"), (0, .class_ 1), (0, u "java/lang/Object"), (0, .class_ 3)] 3

/-- java/lang/Cloneable -/
def k19 : Class := { plain "java/lang/Cloneable" (some 0) with
  accessFlags := 1537
  interfaces := #[]
  cf := some (fileOf pool19 2 #[] #[] 1537 4 #[] #[])
  fields := #[]
  methods := #[]
  instanceTypes := #[]
  staticTypes := #[]
  resolved := Array.replicate 8 none
  statics := none }

/-- the primitive byte -/
def k20 : Class := { plain "byte" none with kind := .primitive 'B', accessFlags := 0x411 }
/-- [B -/
def k21 : Class := { plain "[B" (some 0) with kind := .array 20 .byte, interfaces := #[19, 2], accessFlags := 1041 }

/-- the primitive char -/
def k22 : Class := { plain "char" none with kind := .primitive 'C', accessFlags := 0x411 }
/-- [C -/
def k23 : Class := { plain "[C" (some 0) with kind := .array 22 .char, interfaces := #[19, 2], accessFlags := 1041 }

/-- the primitive int -/
def k24 : Class := { plain "int" none with kind := .primitive 'I', accessFlags := 0x411 }
/-- [I -/
def k25 : Class := { plain "[I" (some 0) with kind := .array 24 .int, interfaces := #[19, 2], accessFlags := 1041 }

def heap : Heap := #[{ cls := 7, slots := #[.long 0, .int 1, .null, .int 0, .null, .int 0, .int 0], vm := .statics 7 },
  { cls := 16, slots := #[.null, .null, .null], vm := .statics 16 }]
def classes : Array Class := #[k0, k1, k2, k3, k4, k5, k6, k7, k8, k9, k10, k11, k12, k13, k14, k15, k16, k17, k18, k19, k20, k21, k22, k23, k24, k25]
def interned : List (Array UInt16 × Addr) := []
def slotsUsed : Nat := 10
def theMethod : MethodId := ⟨1, 1⟩
def args0 : Array Value := #[.int 5, .int 5, .int 5, .int 5]
def aboutOver (below : List Frame) : State where
  vm := { classes := classes, interned := interned.toArray }
  heap := heap
  slotsUsed := slotsUsed
  threads := #[{ frames := .invoking theMethod args0 :: below }]
def below0 : List Frame := [.native { method := ⟨0, 0⟩, args := #[] }]
def about1 : State := aboutOver below0
def p0 : Program := .bare "" "" ""
def e0 : Env := launch0.env 0 0 0
theorem w_frames : about1.frames = Frame.invoking theMethod args0 :: below0 := rfl
set_option maxRecDepth 65536 in
theorem w_args : argsFit about1.vm theMethod args0 = true := by decide +kernel
set_option maxRecDepth 65536 in
theorem w_heap : heapFits about1 = true := by decide +kernel
set_option maxRecDepth 65536 in
theorem w_runnable : about1.curStatus? = some .runnable := by decide +kernel
set_option maxRecDepth 65536 in
theorem w_alone : about1.alone = true := by decide +kernel
set_option maxRecDepth 65536 in
theorem w_named : about1.methodNamed? x = some theMethod := by decide +kernel
set_option maxRecDepth 65536 in
theorem w_hears : about1.hears theMethod below0 = true := by decide +kernel
set_option maxRecDepth 65536 in
theorem w_ripe : about1.ripe theMethod args0 below0 = true := by decide +kernel
theorem w_running : about1.status = .running := rfl
set_option maxRecDepth 65536 in
theorem w_room : about1.hasRoom e0.platform room_1 = true :=
  launch0.hasRoom_least _ room_1 (by decide +kernel) (by decide +kernel) (by decide +kernel) (by decide +kernel) (by decide +kernel) (by decide +kernel)
theorem allAtoms_all (ts : List Jvm.Cond) (a : Array Jvm.Value) (st : Jvm.State) : (allAtoms ts).before a st = ts.all (fun c => c.before a st) := by
  induction ts with
  | nil => rfl
  | cons c t ih =>
    show (Jvm.Cond.and c (allAtoms t)).before a st = _
    rw [Jvm.Cond.before_and, ih, List.all_cons]
def words1 : List Jvm.Cond := Jvm.Cond.code x code maxLocals ret :: tables_1
/-- a 'code' word, met by the world's own term for the bytes: nothing is compared byte by byte -/
theorem code_word {y : MethodName} {bytes : ByteArray} {mx : Nat} {rt : Option FieldType} {a : Array Value} {s : State} {m : MethodId} {meth : Method} {c : Code} (h1 : s.methodNamed? y = some m) (h2 : s.vm.method? m = some meth) (h3 : meth.code = some c) (h4 : c.code = bytes)
    (h5 : (c.maxLocals == mx && c.exceptionTable.isEmpty && decide (c.maxStack ≤ mostOperands) && decide (meth.sig.returnType = rt) && !meth.locks && decide (parseMethodDescriptor y.desc = some meth.sig)) = true) : (Jvm.Cond.code y bytes mx rt).before a s = true := by
  simp only [Bool.and_eq_true, beq_iff_eq, Bool.not_eq_true', decide_eq_true_eq] at h5
  obtain ⟨⟨⟨⟨⟨g1, g2⟩, g3⟩, g4⟩, g5⟩, g6⟩ := h5
  simp [Cond.before, Cond.holds, Cond.value, h1, h2, h3, h4, g1, g2, g3, g4, g5, g6]
def isCode : Jvm.Cond → Bool
  | .code _ _ _ _ => true
  | _ => false
theorem all_split {L : List Jvm.Cond} {P : Jvm.Cond → Bool} (h1 : L.all (fun c => isCode c || P c) = true) (h2 : ∀ c ∈ L.filter isCode, P c = true) : L.all P = true := by
  refine List.all_eq_true.mpr fun c hc => ?_
  have h := List.all_eq_true.mp h1 c hc
  rcases Bool.eq_false_or_eq_true (isCode c) with hi | hi
  · exact h2 c (List.mem_filter.mpr ⟨hc, hi⟩)
  · simpa [hi] using h
set_option maxRecDepth 65536 in
theorem w_c0 : (Jvm.Cond.code x code maxLocals ret).before args0 about1 = true := code_word (m := ⟨1, 1⟩) (meth := k1m1) (c := k1c1) (by decide +kernel) rfl rfl rfl (by decide +kernel)
set_option maxRecDepth 65536 in
theorem w_c1 : (Jvm.Cond.code ({ cls := "java/lang/String", name := "<init>", desc := "([C)V" } : Jvm.MethodName) jdk_42_method_3_code (2 : Nat) (Option.none : Option Jvm.ClassFile.FieldType)).before args0 about1 = true := code_word (m := ⟨7, 1⟩) (meth := k7m1) (c := k7c1) (by decide +kernel) rfl rfl rfl (by decide +kernel)
set_option maxRecDepth 65536 in
theorem w_c2 : (Jvm.Cond.code ({ cls := "java/lang/String", name := "<init>", desc := "([CIILjava/lang/Void;)V" } : Jvm.MethodName) jdk_42_method_149_code (6 : Nat) (Option.none : Option Jvm.ClassFile.FieldType)).before args0 about1 = true := code_word (m := ⟨7, 6⟩) (meth := k7m6) (c := k7c6) (by decide +kernel) rfl rfl rfl (by decide +kernel)
set_option maxRecDepth 65536 in
theorem w_c3 : (Jvm.Cond.code ({ cls := "java/lang/Object", name := "<init>", desc := "()V" } : Jvm.MethodName) object_method_1_code (1 : Nat) (Option.none : Option Jvm.ClassFile.FieldType)).before args0 about1 = true := code_word (m := ⟨0, 0⟩) (meth := k0m0) (c := k0c0) (by decide +kernel) rfl rfl rfl (by decide +kernel)
set_option maxRecDepth 65536 in
theorem w_c4 : (Jvm.Cond.code ({ cls := "com/example/minder/minder/http/PdpIdentifier", name := "ofHost", desc := "(Ljava/lang/String;)Lcom/example/minder/minder/http/PdpIdentifier;" } : Jvm.MethodName) prog_19_method_3_code (1 : Nat) (Option.some (Jvm.ClassFile.FieldType.object "com/example/minder/minder/http/PdpIdentifier"))).before args0 about1 = true := code_word (m := ⟨8, 1⟩) (meth := k8m1) (c := k8c1) (by decide +kernel) rfl rfl rfl (by decide +kernel)
set_option maxRecDepth 65536 in
theorem w_c5 : (Jvm.Cond.code ({ cls := "java/lang/StringBuilder", name := "<init>", desc := "()V" } : Jvm.MethodName) jdk_67_method_1_code (1 : Nat) (Option.none : Option Jvm.ClassFile.FieldType)).before args0 about1 = true := code_word (m := ⟨11, 0⟩) (meth := k11m0) (c := k11c0) (by decide +kernel) rfl rfl rfl (by decide +kernel)
set_option maxRecDepth 65536 in
theorem w_c6 : (Jvm.Cond.code ({ cls := "java/lang/AbstractStringBuilder", name := "<init>", desc := "(I)V" } : Jvm.MethodName) jdk_68_method_2_code (2 : Nat) (Option.none : Option Jvm.ClassFile.FieldType)).before args0 about1 = true := code_word (m := ⟨10, 1⟩) (meth := k10m1) (c := k10c1) (by decide +kernel) rfl rfl rfl (by decide +kernel)
set_option maxRecDepth 65536 in
theorem w_c7 : (Jvm.Cond.code ({ cls := "java/lang/StringBuilder", name := "append", desc := "(Ljava/lang/String;)Ljava/lang/StringBuilder;" } : Jvm.MethodName) jdk_67_method_7_code (2 : Nat) (Option.some (Jvm.ClassFile.FieldType.object "java/lang/StringBuilder"))).before args0 about1 = true := code_word (m := ⟨11, 1⟩) (meth := k11m1) (c := k11c1) (by decide +kernel) rfl rfl rfl (by decide +kernel)
set_option maxRecDepth 65536 in
theorem w_c8 : (Jvm.Cond.code ({ cls := "java/lang/AbstractStringBuilder", name := "append", desc := "(Ljava/lang/String;)Ljava/lang/AbstractStringBuilder;" } : Jvm.MethodName) jdk_68_method_22_code (3 : Nat) (Option.some (Jvm.ClassFile.FieldType.object "java/lang/AbstractStringBuilder"))).before args0 about1 = true := code_word (m := ⟨10, 4⟩) (meth := k10m4) (c := k10c4) (by decide +kernel) rfl rfl rfl (by decide +kernel)
set_option maxRecDepth 65536 in
theorem w_c9 : (Jvm.Cond.code ({ cls := "java/lang/String", name := "length", desc := "()I" } : Jvm.MethodName) jdk_42_method_54_code (1 : Nat) (Option.some Jvm.ClassFile.FieldType.int)).before args0 about1 = true := code_word (m := ⟨7, 3⟩) (meth := k7m3) (c := k7c3) (by decide +kernel) rfl rfl rfl (by decide +kernel)
set_option maxRecDepth 65536 in
theorem w_c10 : (Jvm.Cond.code ({ cls := "java/lang/String", name := "coder", desc := "()B" } : Jvm.MethodName) jdk_42_method_152_code (1 : Nat) (Option.some Jvm.ClassFile.FieldType.byte)).before args0 about1 = true := code_word (m := ⟨7, 8⟩) (meth := k7m8) (c := k7c8) (by decide +kernel) rfl rfl rfl (by decide +kernel)
set_option maxRecDepth 65536 in
theorem w_c11 : (Jvm.Cond.code ({ cls := "java/lang/AbstractStringBuilder", name := "ensureCapacityInternal", desc := "(I)V" } : Jvm.MethodName) jdk_68_method_9_code (3 : Nat) (Option.none : Option Jvm.ClassFile.FieldType)).before args0 about1 = true := code_word (m := ⟨10, 3⟩) (meth := k10m3) (c := k10c3) (by decide +kernel) rfl rfl rfl (by decide +kernel)
set_option maxRecDepth 65536 in
theorem w_c12 : (Jvm.Cond.code ({ cls := "java/lang/AbstractStringBuilder", name := "putStringAt", desc := "(ILjava/lang/String;)V" } : Jvm.MethodName) jdk_68_method_73_code (3 : Nat) (Option.none : Option Jvm.ClassFile.FieldType)).before args0 about1 = true := code_word (m := ⟨10, 8⟩) (meth := k10m8) (c := k10c8) (by decide +kernel) rfl rfl rfl (by decide +kernel)
set_option maxRecDepth 65536 in
theorem w_c13 : (Jvm.Cond.code ({ cls := "java/lang/AbstractStringBuilder", name := "inflateIfNeededFor", desc := "(Ljava/lang/String;)V" } : Jvm.MethodName) jdk_68_method_71_code (2 : Nat) (Option.none : Option Jvm.ClassFile.FieldType)).before args0 about1 = true := code_word (m := ⟨10, 7⟩) (meth := k10m7) (c := k10c7) (by decide +kernel) rfl rfl rfl (by decide +kernel)
set_option maxRecDepth 65536 in
theorem w_c14 : (Jvm.Cond.code ({ cls := "java/lang/String", name := "getBytes", desc := "([BIB)V" } : Jvm.MethodName) jdk_42_method_147_code (4 : Nat) (Option.none : Option Jvm.ClassFile.FieldType)).before args0 about1 = true := code_word (m := ⟨7, 5⟩) (meth := k7m5) (c := k7c5) (by decide +kernel) rfl rfl rfl (by decide +kernel)
set_option maxRecDepth 65536 in
theorem w_c15 : (Jvm.Cond.code ({ cls := "java/lang/StringBuilder", name := "toString", desc := "()Ljava/lang/String;" } : Jvm.MethodName) jdk_67_method_42_code (1 : Nat) (Option.some (Jvm.ClassFile.FieldType.object "java/lang/String"))).before args0 about1 = true := code_word (m := ⟨11, 2⟩) (meth := k11m2) (c := k11c2) (by decide +kernel) rfl rfl rfl (by decide +kernel)
set_option maxRecDepth 65536 in
theorem w_c16 : (Jvm.Cond.code ({ cls := "java/lang/String", name := "<init>", desc := "(Ljava/lang/StringBuilder;)V" } : Jvm.MethodName) jdk_42_method_53_code (2 : Nat) (Option.none : Option Jvm.ClassFile.FieldType)).before args0 about1 = true := code_word (m := ⟨7, 2⟩) (meth := k7m2) (c := k7c2) (by decide +kernel) rfl rfl rfl (by decide +kernel)
set_option maxRecDepth 65536 in
theorem w_c17 : (Jvm.Cond.code ({ cls := "java/lang/String", name := "<init>", desc := "(Ljava/lang/AbstractStringBuilder;Ljava/lang/Void;)V" } : Jvm.MethodName) jdk_42_method_150_code (5 : Nat) (Option.none : Option Jvm.ClassFile.FieldType)).before args0 about1 = true := code_word (m := ⟨7, 7⟩) (meth := k7m7) (c := k7c7) (by decide +kernel) rfl rfl rfl (by decide +kernel)
set_option maxRecDepth 65536 in
theorem w_c18 : (Jvm.Cond.code ({ cls := "java/lang/AbstractStringBuilder", name := "getValue", desc := "()[B" } : Jvm.MethodName) jdk_68_method_64_code (1 : Nat) (Option.some (Jvm.ClassFile.FieldType.array Jvm.ClassFile.FieldType.byte))).before args0 about1 = true := code_word (m := ⟨10, 5⟩) (meth := k10m5) (c := k10c5) (by decide +kernel) rfl rfl rfl (by decide +kernel)
set_option maxRecDepth 65536 in
theorem w_c19 : (Jvm.Cond.code ({ cls := "java/lang/StringBuilder", name := "length", desc := "()I" } : Jvm.MethodName) jdk_67_method_93_code (1 : Nat) (Option.some Jvm.ClassFile.FieldType.int)).before args0 about1 = true := code_word (m := ⟨11, 3⟩) (meth := k11m3) (c := k11c3) (by decide +kernel) rfl rfl rfl (by decide +kernel)
set_option maxRecDepth 65536 in
theorem w_c20 : (Jvm.Cond.code ({ cls := "java/lang/AbstractStringBuilder", name := "length", desc := "()I" } : Jvm.MethodName) jdk_68_method_6_code (1 : Nat) (Option.some Jvm.ClassFile.FieldType.int)).before args0 about1 = true := code_word (m := ⟨10, 2⟩) (meth := k10m2) (c := k10c2) (by decide +kernel) rfl rfl rfl (by decide +kernel)
set_option maxRecDepth 65536 in
theorem w_c21 : (Jvm.Cond.code ({ cls := "java/lang/AbstractStringBuilder", name := "isLatin1", desc := "()Z" } : Jvm.MethodName) jdk_68_method_68_code (1 : Nat) (Option.some Jvm.ClassFile.FieldType.boolean)).before args0 about1 = true := code_word (m := ⟨10, 6⟩) (meth := k10m6) (c := k10c6) (by decide +kernel) rfl rfl rfl (by decide +kernel)
set_option maxRecDepth 65536 in
theorem w_c22 : (Jvm.Cond.code ({ cls := "java/util/Arrays", name := "copyOfRange", desc := "([BII)[B" } : Jvm.MethodName) jdk_65_method_132_code (3 : Nat) (Option.some (Jvm.ClassFile.FieldType.array Jvm.ClassFile.FieldType.byte))).before args0 about1 = true := code_word (m := ⟨13, 2⟩) (meth := k13m2) (c := k13c2) (by decide +kernel) rfl rfl rfl (by decide +kernel)
set_option maxRecDepth 65536 in
theorem w_c23 : (Jvm.Cond.code ({ cls := "java/util/Arrays", name := "copyOfRangeByte", desc := "([BII)[B" } : Jvm.MethodName) jdk_65_method_133_code (5 : Nat) (Option.some (Jvm.ClassFile.FieldType.array Jvm.ClassFile.FieldType.byte))).before args0 about1 = true := code_word (m := ⟨13, 3⟩) (meth := k13m3) (c := k13c3) (by decide +kernel) rfl rfl rfl (by decide +kernel)
set_option maxRecDepth 65536 in
theorem w_c24 : (Jvm.Cond.code ({ cls := "java/util/Arrays", name := "checkLength", desc := "(II)V" } : Jvm.MethodName) jdk_65_method_131_code (2 : Nat) (Option.none : Option Jvm.ClassFile.FieldType)).before args0 about1 = true := code_word (m := ⟨13, 1⟩) (meth := k13m1) (c := k13c1) (by decide +kernel) rfl rfl rfl (by decide +kernel)
set_option maxRecDepth 65536 in
theorem w_c25 : (Jvm.Cond.code ({ cls := "java/lang/Math", name := "min", desc := "(II)I" } : Jvm.MethodName) jdk_29_method_69_code (2 : Nat) (Option.some Jvm.ClassFile.FieldType.int)).before args0 about1 = true := code_word (m := ⟨14, 1⟩) (meth := k14m1) (c := k14c1) (by decide +kernel) rfl rfl rfl (by decide +kernel)
set_option maxRecDepth 65536 in
theorem w_c26 : (Jvm.Cond.code ({ cls := "com/example/minder/minder/http/PdpIdentifier", name := "<init>", desc := "(Ljava/lang/String;)V" } : Jvm.MethodName) prog_19_method_1_code (2 : Nat) (Option.none : Option Jvm.ClassFile.FieldType)).before args0 about1 = true := code_word (m := ⟨8, 0⟩) (meth := k8m0) (c := k8c0) (by decide +kernel) rfl rfl rfl (by decide +kernel)
set_option maxRecDepth 65536 in
theorem w_c27 : (Jvm.Cond.code ({ cls := "com/example/minder/minder/http/PdpIdentifier", name := "toString", desc := "()Ljava/lang/String;" } : Jvm.MethodName) prog_19_method_4_code (1 : Nat) (Option.some (Jvm.ClassFile.FieldType.object "java/lang/String"))).before args0 about1 = true := code_word (m := ⟨8, 2⟩) (meth := k8m2) (c := k8c2) (by decide +kernel) rfl rfl rfl (by decide +kernel)
set_option maxRecDepth 65536 in
theorem w_c28 : (Jvm.Cond.code ({ cls := "java/lang/String", name := "charAt", desc := "(I)C" } : Jvm.MethodName) jdk_42_method_56_code (2 : Nat) (Option.some Jvm.ClassFile.FieldType.char)).before args0 about1 = true := code_word (m := ⟨7, 4⟩) (meth := k7m4) (c := k7c4) (by decide +kernel) rfl rfl rfl (by decide +kernel)
set_option maxRecDepth 65536 in
theorem w_c29 : (Jvm.Cond.code ({ cls := "java/lang/String", name := "isLatin1", desc := "()Z" } : Jvm.MethodName) jdk_42_method_154_code (1 : Nat) (Option.some Jvm.ClassFile.FieldType.boolean)).before args0 about1 = true := code_word (m := ⟨7, 9⟩) (meth := k7m9) (c := k7c9) (by decide +kernel) rfl rfl rfl (by decide +kernel)
set_option maxRecDepth 65536 in
theorem w_c30 : (Jvm.Cond.code ({ cls := "java/lang/StringLatin1", name := "charAt", desc := "([BI)C" } : Jvm.MethodName) jdk_43_method_2_code (2 : Nat) (Option.some Jvm.ClassFile.FieldType.char)).before args0 about1 = true := code_word (m := ⟨15, 1⟩) (meth := k15m1) (c := k15c1) (by decide +kernel) rfl rfl rfl (by decide +kernel)
set_option maxRecDepth 65536 in
theorem w_c31 : (Jvm.Cond.code ({ cls := "java/lang/String", name := "checkIndex", desc := "(II)V" } : Jvm.MethodName) jdk_42_method_155_code (2 : Nat) (Option.none : Option Jvm.ClassFile.FieldType)).before args0 about1 = true := code_word (m := ⟨7, 10⟩) (meth := k7m10) (c := k7c10) (by decide +kernel) rfl rfl rfl (by decide +kernel)
set_option maxRecDepth 65536 in
theorem w_c32 : (Jvm.Cond.code ({ cls := "jdk/internal/util/Preconditions", name := "checkIndex", desc := "(IILjava/util/function/BiFunction;)I" } : Jvm.MethodName) jdk_41_method_11_code (3 : Nat) (Option.some Jvm.ClassFile.FieldType.int)).before args0 about1 = true := code_word (m := ⟨16, 1⟩) (meth := k16m1) (c := k16c1) (by decide +kernel) rfl rfl rfl (by decide +kernel)
set_option maxRecDepth 65536 in
theorem w_c33 : (Jvm.Cond.code ({ cls := "java/lang/StringUTF16", name := "compress", desc := "([CII)[B" } : Jvm.MethodName) jdk_52_method_16_code (6 : Nat) (Option.some (Jvm.ClassFile.FieldType.array Jvm.ClassFile.FieldType.byte))).before args0 about1 = true := code_word (m := ⟨17, 2⟩) (meth := k17m2) (c := k17c2) (by decide +kernel) rfl rfl rfl (by decide +kernel)
set_option maxRecDepth 65536 in
theorem w_c34 : (Jvm.Cond.code ({ cls := "java/lang/StringUTF16", name := "compress", desc := "([CI[BII)I" } : Jvm.MethodName) jdk_52_method_21_code (7 : Nat) (Option.some Jvm.ClassFile.FieldType.int)).before args0 about1 = true := code_word (m := ⟨17, 3⟩) (meth := k17m3) (c := k17c3) (by decide +kernel) rfl rfl rfl (by decide +kernel)
set_option maxRecDepth 65536 in
theorem w_c35 : (Jvm.Cond.code ({ cls := "java/lang/StringUTF16", name := "coderFromArrayLen", desc := "([BI)B" } : Jvm.MethodName) jdk_52_method_15_code (2 : Nat) (Option.some Jvm.ClassFile.FieldType.byte)).before args0 about1 = true := code_word (m := ⟨17, 1⟩) (meth := k17m1) (c := k17c1) (by decide +kernel) rfl rfl rfl (by decide +kernel)
def codes1 : List Jvm.Cond := [Jvm.Cond.code x code maxLocals ret, Jvm.Cond.code ({ cls := "java/lang/String", name := "<init>", desc := "([C)V" } : Jvm.MethodName) jdk_42_method_3_code (2 : Nat) (Option.none : Option Jvm.ClassFile.FieldType), Jvm.Cond.code ({ cls := "java/lang/String", name := "<init>", desc := "([CIILjava/lang/Void;)V" } : Jvm.MethodName) jdk_42_method_149_code (6 : Nat) (Option.none : Option Jvm.ClassFile.FieldType), Jvm.Cond.code ({ cls := "java/lang/Object", name := "<init>", desc := "()V" } : Jvm.MethodName) object_method_1_code (1 : Nat) (Option.none : Option Jvm.ClassFile.FieldType), Jvm.Cond.code ({ cls := "com/example/minder/minder/http/PdpIdentifier", name := "ofHost", desc := "(Ljava/lang/String;)Lcom/example/minder/minder/http/PdpIdentifier;" } : Jvm.MethodName) prog_19_method_3_code (1 : Nat) (Option.some (Jvm.ClassFile.FieldType.object "com/example/minder/minder/http/PdpIdentifier")), Jvm.Cond.code ({ cls := "java/lang/StringBuilder", name := "<init>", desc := "()V" } : Jvm.MethodName) jdk_67_method_1_code (1 : Nat) (Option.none : Option Jvm.ClassFile.FieldType), Jvm.Cond.code ({ cls := "java/lang/AbstractStringBuilder", name := "<init>", desc := "(I)V" } : Jvm.MethodName) jdk_68_method_2_code (2 : Nat) (Option.none : Option Jvm.ClassFile.FieldType), Jvm.Cond.code ({ cls := "java/lang/StringBuilder", name := "append", desc := "(Ljava/lang/String;)Ljava/lang/StringBuilder;" } : Jvm.MethodName) jdk_67_method_7_code (2 : Nat) (Option.some (Jvm.ClassFile.FieldType.object "java/lang/StringBuilder")), Jvm.Cond.code ({ cls := "java/lang/AbstractStringBuilder", name := "append", desc := "(Ljava/lang/String;)Ljava/lang/AbstractStringBuilder;" } : Jvm.MethodName) jdk_68_method_22_code (3 : Nat) (Option.some (Jvm.ClassFile.FieldType.object "java/lang/AbstractStringBuilder")), Jvm.Cond.code ({ cls := "java/lang/String", name := "length", desc := "()I" } : Jvm.MethodName) jdk_42_method_54_code (1 : Nat) (Option.some Jvm.ClassFile.FieldType.int), Jvm.Cond.code ({ cls := "java/lang/String", name := "coder", desc := "()B" } : Jvm.MethodName) jdk_42_method_152_code (1 : Nat) (Option.some Jvm.ClassFile.FieldType.byte), Jvm.Cond.code ({ cls := "java/lang/AbstractStringBuilder", name := "ensureCapacityInternal", desc := "(I)V" } : Jvm.MethodName) jdk_68_method_9_code (3 : Nat) (Option.none : Option Jvm.ClassFile.FieldType), Jvm.Cond.code ({ cls := "java/lang/AbstractStringBuilder", name := "putStringAt", desc := "(ILjava/lang/String;)V" } : Jvm.MethodName) jdk_68_method_73_code (3 : Nat) (Option.none : Option Jvm.ClassFile.FieldType), Jvm.Cond.code ({ cls := "java/lang/AbstractStringBuilder", name := "inflateIfNeededFor", desc := "(Ljava/lang/String;)V" } : Jvm.MethodName) jdk_68_method_71_code (2 : Nat) (Option.none : Option Jvm.ClassFile.FieldType), Jvm.Cond.code ({ cls := "java/lang/String", name := "getBytes", desc := "([BIB)V" } : Jvm.MethodName) jdk_42_method_147_code (4 : Nat) (Option.none : Option Jvm.ClassFile.FieldType), Jvm.Cond.code ({ cls := "java/lang/StringBuilder", name := "toString", desc := "()Ljava/lang/String;" } : Jvm.MethodName) jdk_67_method_42_code (1 : Nat) (Option.some (Jvm.ClassFile.FieldType.object "java/lang/String")), Jvm.Cond.code ({ cls := "java/lang/String", name := "<init>", desc := "(Ljava/lang/StringBuilder;)V" } : Jvm.MethodName) jdk_42_method_53_code (2 : Nat) (Option.none : Option Jvm.ClassFile.FieldType), Jvm.Cond.code ({ cls := "java/lang/String", name := "<init>", desc := "(Ljava/lang/AbstractStringBuilder;Ljava/lang/Void;)V" } : Jvm.MethodName) jdk_42_method_150_code (5 : Nat) (Option.none : Option Jvm.ClassFile.FieldType), Jvm.Cond.code ({ cls := "java/lang/AbstractStringBuilder", name := "getValue", desc := "()[B" } : Jvm.MethodName) jdk_68_method_64_code (1 : Nat) (Option.some (Jvm.ClassFile.FieldType.array Jvm.ClassFile.FieldType.byte)), Jvm.Cond.code ({ cls := "java/lang/StringBuilder", name := "length", desc := "()I" } : Jvm.MethodName) jdk_67_method_93_code (1 : Nat) (Option.some Jvm.ClassFile.FieldType.int), Jvm.Cond.code ({ cls := "java/lang/AbstractStringBuilder", name := "length", desc := "()I" } : Jvm.MethodName) jdk_68_method_6_code (1 : Nat) (Option.some Jvm.ClassFile.FieldType.int), Jvm.Cond.code ({ cls := "java/lang/AbstractStringBuilder", name := "isLatin1", desc := "()Z" } : Jvm.MethodName) jdk_68_method_68_code (1 : Nat) (Option.some Jvm.ClassFile.FieldType.boolean), Jvm.Cond.code ({ cls := "java/util/Arrays", name := "copyOfRange", desc := "([BII)[B" } : Jvm.MethodName) jdk_65_method_132_code (3 : Nat) (Option.some (Jvm.ClassFile.FieldType.array Jvm.ClassFile.FieldType.byte)), Jvm.Cond.code ({ cls := "java/util/Arrays", name := "copyOfRangeByte", desc := "([BII)[B" } : Jvm.MethodName) jdk_65_method_133_code (5 : Nat) (Option.some (Jvm.ClassFile.FieldType.array Jvm.ClassFile.FieldType.byte)), Jvm.Cond.code ({ cls := "java/util/Arrays", name := "checkLength", desc := "(II)V" } : Jvm.MethodName) jdk_65_method_131_code (2 : Nat) (Option.none : Option Jvm.ClassFile.FieldType), Jvm.Cond.code ({ cls := "java/lang/Math", name := "min", desc := "(II)I" } : Jvm.MethodName) jdk_29_method_69_code (2 : Nat) (Option.some Jvm.ClassFile.FieldType.int), Jvm.Cond.code ({ cls := "com/example/minder/minder/http/PdpIdentifier", name := "<init>", desc := "(Ljava/lang/String;)V" } : Jvm.MethodName) prog_19_method_1_code (2 : Nat) (Option.none : Option Jvm.ClassFile.FieldType), Jvm.Cond.code ({ cls := "com/example/minder/minder/http/PdpIdentifier", name := "toString", desc := "()Ljava/lang/String;" } : Jvm.MethodName) prog_19_method_4_code (1 : Nat) (Option.some (Jvm.ClassFile.FieldType.object "java/lang/String")), Jvm.Cond.code ({ cls := "java/lang/String", name := "charAt", desc := "(I)C" } : Jvm.MethodName) jdk_42_method_56_code (2 : Nat) (Option.some Jvm.ClassFile.FieldType.char), Jvm.Cond.code ({ cls := "java/lang/String", name := "isLatin1", desc := "()Z" } : Jvm.MethodName) jdk_42_method_154_code (1 : Nat) (Option.some Jvm.ClassFile.FieldType.boolean), Jvm.Cond.code ({ cls := "java/lang/StringLatin1", name := "charAt", desc := "([BI)C" } : Jvm.MethodName) jdk_43_method_2_code (2 : Nat) (Option.some Jvm.ClassFile.FieldType.char), Jvm.Cond.code ({ cls := "java/lang/String", name := "checkIndex", desc := "(II)V" } : Jvm.MethodName) jdk_42_method_155_code (2 : Nat) (Option.none : Option Jvm.ClassFile.FieldType), Jvm.Cond.code ({ cls := "jdk/internal/util/Preconditions", name := "checkIndex", desc := "(IILjava/util/function/BiFunction;)I" } : Jvm.MethodName) jdk_41_method_11_code (3 : Nat) (Option.some Jvm.ClassFile.FieldType.int), Jvm.Cond.code ({ cls := "java/lang/StringUTF16", name := "compress", desc := "([CII)[B" } : Jvm.MethodName) jdk_52_method_16_code (6 : Nat) (Option.some (Jvm.ClassFile.FieldType.array Jvm.ClassFile.FieldType.byte)), Jvm.Cond.code ({ cls := "java/lang/StringUTF16", name := "compress", desc := "([CI[BII)I" } : Jvm.MethodName) jdk_52_method_21_code (7 : Nat) (Option.some Jvm.ClassFile.FieldType.int), Jvm.Cond.code ({ cls := "java/lang/StringUTF16", name := "coderFromArrayLen", desc := "([BI)B" } : Jvm.MethodName) jdk_52_method_15_code (2 : Nat) (Option.some Jvm.ClassFile.FieldType.byte)]
set_option maxRecDepth 65536 in
theorem codes_eq : words1.filter isCode = codes1 := rfl
theorem w_codes : ∀ c ∈ words1.filter isCode, c.before args0 about1 = true := by
  rw [codes_eq]
  intro c hc
  simp only [codes1, List.mem_cons, List.not_mem_nil, or_false] at hc
  rcases hc with rfl | rfl | rfl | rfl | rfl | rfl | rfl | rfl | rfl | rfl | rfl | rfl | rfl | rfl | rfl | rfl | rfl | rfl | rfl | rfl | rfl | rfl | rfl | rfl | rfl | rfl | rfl | rfl | rfl | rfl | rfl | rfl | rfl | rfl | rfl | rfl
  · exact w_c0
  · exact w_c1
  · exact w_c2
  · exact w_c3
  · exact w_c4
  · exact w_c5
  · exact w_c6
  · exact w_c7
  · exact w_c8
  · exact w_c9
  · exact w_c10
  · exact w_c11
  · exact w_c12
  · exact w_c13
  · exact w_c14
  · exact w_c15
  · exact w_c16
  · exact w_c17
  · exact w_c18
  · exact w_c19
  · exact w_c20
  · exact w_c21
  · exact w_c22
  · exact w_c23
  · exact w_c24
  · exact w_c25
  · exact w_c26
  · exact w_c27
  · exact w_c28
  · exact w_c29
  · exact w_c30
  · exact w_c31
  · exact w_c32
  · exact w_c33
  · exact w_c34
  · exact w_c35
set_option maxRecDepth 65536 in
theorem w_t1 : (words1.take 24).all (fun c => isCode c || c.before args0 about1) = true := by decide +kernel
set_option maxRecDepth 65536 in
theorem w_t2 : ((words1.drop 24).take 24).all (fun c => isCode c || c.before args0 about1) = true := by decide +kernel
set_option maxRecDepth 65536 in
theorem w_t3 : (((words1.drop 24).drop 24).take 24).all (fun c => isCode c || c.before args0 about1) = true := by decide +kernel
set_option maxRecDepth 65536 in
theorem w_t4 : ((((words1.drop 24).drop 24).drop 24).take 24).all (fun c => isCode c || c.before args0 about1) = true := by decide +kernel
set_option maxRecDepth 65536 in
theorem w_t5 : (((((words1.drop 24).drop 24).drop 24).drop 24).take 24).all (fun c => isCode c || c.before args0 about1) = true := by decide +kernel
set_option maxRecDepth 65536 in
theorem w_t6 : ((((((words1.drop 24).drop 24).drop 24).drop 24).drop 24).take 24).all (fun c => isCode c || c.before args0 about1) = true := by decide +kernel
set_option maxRecDepth 65536 in
theorem w_t7 : (((((((words1.drop 24).drop 24).drop 24).drop 24).drop 24).drop 24).take 24).all (fun c => isCode c || c.before args0 about1) = true := by decide +kernel
set_option maxRecDepth 65536 in
theorem w_t8 : (((((((words1.drop 24).drop 24).drop 24).drop 24).drop 24).drop 24).drop 24).all (fun c => isCode c || c.before args0 about1) = true := by decide +kernel
theorem w_tables : (allAtoms (Jvm.Cond.code x code maxLocals ret :: tables_1)).before args0 about1 = true := by
  rw [allAtoms_all]
  show words1.all (fun c => c.before args0 about1) = true
  refine all_split ?_ w_codes
  rw [← List.take_append_drop 24 words1, List.all_append, w_t1, ← List.take_append_drop 24 (words1.drop 24), List.all_append, w_t2, ← List.take_append_drop 24 ((words1.drop 24).drop 24), List.all_append, w_t3, ← List.take_append_drop 24 (((words1.drop 24).drop 24).drop 24), List.all_append, w_t4, ← List.take_append_drop 24 ((((words1.drop 24).drop 24).drop 24).drop 24), List.all_append, w_t5, ← List.take_append_drop 24 (((((words1.drop 24).drop 24).drop 24).drop 24).drop 24), List.all_append, w_t6, ← List.take_append_drop 24 ((((((words1.drop 24).drop 24).drop 24).drop 24).drop 24).drop 24), List.all_append, w_t7, w_t8]
  rfl
set_option maxRecDepth 65536 in
theorem w_rest : rest_1_c.before args0 about1 = true := by decide +kernel
set_option maxRecDepth 65536 in
theorem w_case : (Jvm.Cond.and given_1 narrow_1).before args0 about1 = true := by decide +kernel
set_option maxRecDepth 65536 in
theorem w_consts : constsHeld consts_1 about1 := Jvm.Lit.constsHeldB_iff.mp (by decide +kernel)
theorem w_applies : (headSpec (Jvm.Cond.code x code maxLocals ret :: tables_1) room_1).applies x e0.platform about1 = true :=
  (Spec.applies_iff w_frames).mpr ⟨w_running, w_runnable, w_alone, w_named, w_hears, w_ripe, w_room, w_tables⟩
theorem atStart : AtStart classFile x code maxLocals ret World_1 tables_1 room_1 Calls_1 rest_1 Pre_1 launch0 p0 e0 about1 theMethod args0 below0 :=
  ⟨lists_1, trivial, launch0.admits_env _ _ _, launch0.least_env, fairChoices_fair.cas, fairChoices_fair.clock, w_frames, w_args, w_heap, w_applies, ⟨w_consts, trivial⟩, w_rest, w_case⟩
end start1
theorem witness_1 : WitnessClaimed_1 := ⟨start1.p0, start1.e0, start1.about1, start1.theMethod, start1.args0, start1.below0, start1.atStart⟩
end Jvm.Pilot.@@N@@
