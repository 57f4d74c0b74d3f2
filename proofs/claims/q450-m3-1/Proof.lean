import JvmDerived
import JvmDerived.Pilot.@@N@@Statement
import JvmDerived.Pilot.@@N@@Code
set_option linter.unusedVariables false
set_option linter.unusedSimpArgs false

/- laws to paste: Road.backV, Road.lenW, Road.codOf (cut by pick.py; bodies as the Statement names them) -/
namespace Jvm.Pilot.@@N@@
namespace StrChars
open Jvm Sem ClassFile Op Lib Jvm.Stand Jvm.Free.XT Jvm.Free.ALB Jvm.Free.JM Jvm.Free
open Jvm.Lib.Cold (StaticIs)
/-- a char array whose places are chars -/
def Ch (a : Addr) (A : Cell) (U : State) : Prop := Arr .char a A U ∧ Typed .char A
theorem Ch.mv {a : Addr} {A : Cell} {U U' : State} (h : Ch a A U) (hal : U.vm.Alike U'.vm) (hh : U'.heap = U.heap) : Ch a A U' := ⟨h.1.mv hal hh, h.2⟩
theorem Ch.keep {a : Addr} {A : Cell} {U U' : State} (h : Ch a A U) (hal : U.vm.Alike U'.vm) (hk : U'.heap[a]? = some A) : Ch a A U' := ⟨h.1.keep hal hk, h.2⟩
/-- what place i of a char[]'s cell holds -/
def cv (A : Cell) (i : Nat) : Int32 := match A.slots[i]? with | some (.int x) => x | _ => 0
theorem Ch.get {a : Addr} {A : Cell} {U : State} (h : Ch a A U) {i : Nat} (hi : i < A.slots.size) : A.slots[i]? = some (.int (cv A i)) := by
  have e := Array.getElem?_eq_getElem hi
  have f := h.2 i _ e
  unfold cv; rw [e]
  generalize A.slots[i] = v at f
  cases v <;> simp [fits] at f ⊢
/-- the byte that i2b leaves of a char -/
def lo8 (x : Int32) : Int32 := x.toInt8.toInt32
theorem fits_lo8 (y : Int32) : fits .byte (.int (lo8 y)) = true := by
  have h1 := y.toInt8.le_toInt
  have h2 := y.toInt8.toInt_lt
  simp only [lo8, fits, Bool.and_eq_true, decide_eq_true_eq, Int32.le_iff_toInt_le, Int8.toInt_toInt32, show (-128 : Int32).toInt = -128 from by decide, show (127 : Int32).toInt = 127 from by decide]
  omega
/-- A' is A but that each place j of lo .. hi - 1 holds f j -/
def Laid (A A' : Cell) (lo hi : Nat) (f : Nat → Value) : Prop := A'.cls = A.cls ∧ A'.vm = A.vm ∧ A'.slots.size = A.slots.size ∧ ∀ i, A'.slots[i]? = if lo ≤ i ∧ i < hi then some (f i) else A.slots[i]?
theorem Laid.zero (A : Cell) (lo : Nat) (f : Nat → Value) : Laid A A lo (lo + 0) f := ⟨rfl, rfl, rfl, fun i => by rw [if_neg (by omega)]⟩
theorem Laid.step {A Ak : Cell} {lo k : Nat} {f : Nat → Value} {v : Value} (h : Laid A Ak lo k f) (hlo : lo ≤ k) (hk : k < Ak.slots.size) (hv : v = f k) : Laid A (Ak.setSlot k v) lo (k + 1) f := by
  refine ⟨h.1, h.2.1, by simpa [Cell.setSlot] using h.2.2.1, fun i => ?_⟩
  by_cases e : k = i
  · subst e; rw [Cell.slots_setSlot_self v hk, if_pos (by omega), hv]
  · rw [Cell.slots_setSlot_ne v e, h.2.2.2 i]
    by_cases q : lo ≤ i ∧ i < k
    · rw [if_pos q, if_pos (by omega)]
    · rw [if_neg q, if_neg (by omega)]
def U16 : String := "java/lang/StringUTF16"
namespace Cmp5
def yN : MethodName := ⟨"java/lang/StringUTF16", "compress", "([CI[BII)I"⟩
abbrev yB : ByteArray := jdk_52_method_21_code
theorem d0 : decode yB 0 = .ok (.iconst 0, 1) := by decide +kernel
theorem d1 : decode yB 1 = .ok (.istore 5, 2) := by decide +kernel
theorem d3 : decode yB 3 = .ok (.iload 5, 2) := by decide +kernel
theorem d5 : decode yB 5 = .ok (.iload 4, 2) := by decide +kernel
theorem d7 : decode yB 7 = .ok (.if_icmp (.ge) 37, 3) := by decide +kernel
theorem d10 : decode yB 10 = .ok (.aload_n 0, 1) := by decide +kernel
theorem d11 : decode yB 11 = .ok (.iload_n 1, 1) := by decide +kernel
theorem d12 : decode yB 12 = .ok (.caload, 1) := by decide +kernel
theorem d13 : decode yB 13 = .ok (.istore 6, 2) := by decide +kernel
theorem d15 : decode yB 15 = .ok (.iload 6, 2) := by decide +kernel
theorem d17 : decode yB 17 = .ok (.sipush 255, 3) := by decide +kernel
theorem d20 : decode yB 20 = .ok (.if_icmp (.le) 6, 3) := by decide +kernel
theorem d26 : decode yB 26 = .ok (.aload_n 2, 1) := by decide +kernel
theorem d27 : decode yB 27 = .ok (.iload_n 3, 1) := by decide +kernel
theorem d28 : decode yB 28 = .ok (.iload 6, 2) := by decide +kernel
theorem d30 : decode yB 30 = .ok (.i2b, 1) := by decide +kernel
theorem d31 : decode yB 31 = .ok (.bastore, 1) := by decide +kernel
theorem d32 : decode yB 32 = .ok (.iinc 1 1, 3) := by decide +kernel
theorem d35 : decode yB 35 = .ok (.iinc 3 1, 3) := by decide +kernel
theorem d38 : decode yB 38 = .ok (.iinc 5 1, 3) := by decide +kernel
theorem d41 : decode yB 41 = .ok (.goto (-38), 3) := by decide +kernel
theorem d44 : decode yB 44 = .ok (.iload 4, 2) := by decide +kernel
theorem d46 : decode yB 46 = .ok (.ireturn, 1) := by decide +kernel
def site : List Cond := []
def tab : Cond := tabOf yN yB 7 (some .int) site
def P (b : Addr) (A : Cell) (d : Addr) (B : Cell) (o q len : Nat) (args : Array Value) (s : State) : Prop := args = #[.ref b, .int (Int32.ofNat o), .ref d, .int (Int32.ofNat q), .int (Int32.ofNat len)] ∧ Ch b A s ∧ Arr .byte d B s ∧ b ≠ d ∧ o + len ≤ A.slots.size ∧ q + len ≤ B.slots.size ∧ ∀ i, i < len → ¬ 255 < cv A (o + i)
def E (b : Addr) (A : Cell) (d : Addr) (B : Cell) (o q len : Nat) (r : Option Value) (s u : State) : Prop := r = some (.int (Int32.ofNat len)) ∧ ∃ B', Put d B' s u ∧ Laid B B' q (q + len) (fun j => Value.int (lo8 (cv A (o + (j - q)))))
/-- no char of the range above 255: len; the places written hold each char's low byte -/
theorem law (l : Launch) (b : Addr) (A : Cell) (d : Addr) (B : Cell) (o q len : Nat) : Law l yN 5 5 0 0 yB 7 (some .int) site (P b A d B o q len) (E b A d B o q len) (copyLocs d q len) 0 0 := by
  refine Law.of_walk (plainFor_of_name (by decide +kernel)) (by decide +kernel) (by decide +kernel) (by decide) (fun _ _ h => by rw [h.1]; rfl) (fun _ U U' hal hh h => ⟨h.1, h.2.1.mv hal hh, h.2.2.1.mv hal hh, h.2.2.2⟩) (fun r U U' V V' h1 hal h2 h => ⟨h.1, h.2.elim fun B' q => ⟨B', q.1.mv h1 h2, q.2⟩⟩) ?_
  intro p e s m args below meth c s₁ X0 hexec hbytes hml hret hlk hnm hown hh0 W hP
  obtain ⟨rfl, hA, hB, hne, l1, l2, hp⟩ := hP
  have c1 : Steps p.tables e below (s₁.setTop (entryFrame m #[.ref b, .int (Int32.ofNat o), .ref d, .int (Int32.ofNat q), .int (Int32.ofNat len)] 7)) (s₁.setTop (mkF m 0 #[.val (.ref b), .val (.int (Int32.ofNat o)), .val (.ref d), .val (.int (Int32.ofNat q)), .val (.int (Int32.ofNat len)), .unset, .unset] [])) := entry rfl
  have hA0 := hA.1.mv X0.warmed.alike hh0
  have hB0 := hB.mv X0.warmed.alike hh0
  have a31 := hA.1.2.2.2
  have c2 : Steps p.tables e below (s₁.setTop (entryFrame m #[.ref b, .int (Int32.ofNat o), .ref d, .int (Int32.ofNat q), .int (Int32.ofNat len)] 7)) (s₁.setTop (mkF m 3 #[.val (.ref b), .val (.int (Int32.ofNat o)), .val (.ref d), .val (.int (Int32.ofNat q)), .val (.int (Int32.ofNat len)), .val (.int 0), .unset] [])) := c1.trans (by
    refine iconstV X0.here hexec rfl 0 (hb hbytes d0) (by decide) ?_
    refine XS.istore X0.here hexec rfl (hb hbytes d1) rfl rfl ?_
    exact Steps.refl _)
  have loop : ∀ (r i : Nat), i + r = len → ∀ (z : Slot), (z = .unset ∨ ∃ w, z = .val w ∧ w.category = 1) → ∀ (Tl : State) (Bk : Cell), Stand p l e { frames := 0, locals := 0, cells := 0, slots := 0 } s m #[.ref b, .int (Int32.ofNat o), .ref d, .int (Int32.ofNat q), .int (Int32.ofNat len)] below meth c Tl ([] ++ copyLocs d q i) 0 0 → Put d Bk s₁ Tl → Laid B Bk q (q + i) (fun j => Value.int (lo8 (cv A (o + (j - q))))) →
      Steps p.tables e below (s₁.setTop (entryFrame m #[.ref b, .int (Int32.ofNat o), .ref d, .int (Int32.ofNat q), .int (Int32.ofNat len)] 7)) (Tl.setTop (mkF m 3 #[.val (.ref b), .val (.int (Int32.ofNat (o + i))), .val (.ref d), .val (.int (Int32.ofNat (q + i))), .val (.int (Int32.ofNat len)), .val (.int (Int32.ofNat i)), z] [])) → ∃ (T' : State) (B' : Cell) (z' : Slot), Stand p l e { frames := 0, locals := 0, cells := 0, slots := 0 } s m #[.ref b, .int (Int32.ofNat o), .ref d, .int (Int32.ofNat q), .int (Int32.ofNat len)] below meth c T' ([] ++ copyLocs d q len) 0 0 ∧ Put d B' s₁ T' ∧ Laid B B' q (q + len) (fun j => Value.int (lo8 (cv A (o + (j - q))))) ∧
      Steps p.tables e below (s₁.setTop (entryFrame m #[.ref b, .int (Int32.ofNat o), .ref d, .int (Int32.ofNat q), .int (Int32.ofNat len)] 7)) (T'.setTop (mkF m 3 #[.val (.ref b), .val (.int (Int32.ofNat (o + len))), .val (.ref d), .val (.int (Int32.ofNat (q + len))), .val (.int (Int32.ofNat len)), .val (.int (Int32.ofNat len)), z'] [])) := by
    intro r
    induction r with
    | zero =>
      intro i hi z hz Tl Bk Xl pl fl cl
      have hil : i = len := by omega
      rw [hil] at Xl fl cl
      exact ⟨Tl, Bk, z, Xl, pl, fl, cl⟩
    | succ r ih =>
      intro i hi z hz Tl Bk Xl pl fl cl
      have all := X0.warmed.alike.symm.trans Xl.warmed.alike
      have hAl := hA0.keep all (pl.other hne hA0.1)
      have hBk := hB0.like all pl.1 fl.1 fl.2.1 fl.2.2.1
      have hlt : q + i < Bk.slots.size := by rw [fl.2.2.1]; omega
      have c3 : Steps p.tables e below (s₁.setTop (entryFrame m #[.ref b, .int (Int32.ofNat o), .ref d, .int (Int32.ofNat q), .int (Int32.ofNat len)] 7)) (Tl.setTop (mkF m 12 #[.val (.ref b), .val (.int (Int32.ofNat (o + i))), .val (.ref d), .val (.int (Int32.ofNat (q + i))), .val (.int (Int32.ofNat len)), .val (.int (Int32.ofNat i)), z] [.int (Int32.ofNat (o + i)), .ref b])) := cl.trans (by
        refine XS.iload Xl.here hexec rfl (hb hbytes d3) rfl ?_
        refine XS.iload Xl.here hexec rfl (hb hbytes d5) rfl ?_
        refine XS.icmpNo Xl.here hexec rfl (hb hbytes d7) rfl (ii_ge_f (lt32 (by omega) (by omega))) ?_
        refine XS.aloadN Xl.here hexec rfl (hb hbytes d10) rfl rfl ?_
        refine XS.iloadN Xl.here hexec rfl (hb hbytes d11) rfl ?_
        exact Steps.refl _)
      have c4 : Steps p.tables e below (s₁.setTop (entryFrame m #[.ref b, .int (Int32.ofNat o), .ref d, .int (Int32.ofNat q), .int (Int32.ofNat len)] 7)) (Tl.setTop (mkF m 13 #[.val (.ref b), .val (.int (Int32.ofNat (o + i))), .val (.ref d), .val (.int (Int32.ofNat (q + i))), .val (.int (Int32.ofNat len)), .val (.int (Int32.ofNat i)), z] [.int (cv A (o + i))])) := c3.trans (by
        refine Xl.aget hexec hAl rfl (hA.get (i := o + i) (by omega)) rfl rfl (hb hbytes d12) ?_
        exact Steps.refl _)
      have c5 : Steps p.tables e below (s₁.setTop (entryFrame m #[.ref b, .int (Int32.ofNat o), .ref d, .int (Int32.ofNat q), .int (Int32.ofNat len)] 7)) (Tl.setTop (mkF m 15 #[.val (.ref b), .val (.int (Int32.ofNat (o + i))), .val (.ref d), .val (.int (Int32.ofNat (q + i))), .val (.int (Int32.ofNat len)), .val (.int (Int32.ofNat i)), .val (.int (cv A (o + i)))] [])) := c4.trans (by
        refine XS.istoreS Xl.here hexec rfl (hb hbytes d13) rfl rfl hz ?_
        exact Steps.refl _)
      have c6 : Steps p.tables e below (s₁.setTop (entryFrame m #[.ref b, .int (Int32.ofNat o), .ref d, .int (Int32.ofNat q), .int (Int32.ofNat len)] 7)) (Tl.setTop (mkF m 31 #[.val (.ref b), .val (.int (Int32.ofNat (o + i))), .val (.ref d), .val (.int (Int32.ofNat (q + i))), .val (.int (Int32.ofNat len)), .val (.int (Int32.ofNat i)), .val (.int (cv A (o + i)))] [.int (lo8 (cv A (o + i))), .int (Int32.ofNat (q + i)), .ref d])) := c5.trans (by
        refine XS.iload Xl.here hexec rfl (hb hbytes d15) rfl ?_
        refine sipushV Xl.here hexec rfl 255 (hb hbytes d17) (by decide) ?_
        refine XS.icmpYes Xl.here hexec rfl (pc0 := 20) rfl (hb hbytes d20) rfl (ii_le_t (hp i (by omega))) (by decide) rfl ?_
        refine XS.aloadN Xl.here hexec rfl (hb hbytes d26) rfl rfl ?_
        refine XS.iloadN Xl.here hexec rfl (hb hbytes d27) rfl ?_
        refine XS.iload Xl.here hexec rfl (hb hbytes d28) rfl ?_
        refine i2b Xl.here hexec rfl (hb hbytes d30) rfl ?_
        exact Steps.refl _)
      obtain ⟨T7, X7, p7, st7⟩ := Xl.aput hexec hBk rfl hlt rfl (fits_lo8 (cv A (o + i))) (g := (mkF m 31 #[.val (.ref b), .val (.int (Int32.ofNat (o + i))), .val (.ref d), .val (.int (Int32.ofNat (q + i))), .val (.int (Int32.ofNat len)), .val (.int (Int32.ofNat i)), .val (.int (cv A (o + i)))] [.int (lo8 (cv A (o + i))), .int (Int32.ofNat (q + i)), .ref d])) rfl (rest := []) rfl (hb hbytes d31)
      have c8 : Steps p.tables e below (s₁.setTop (entryFrame m #[.ref b, .int (Int32.ofNat o), .ref d, .int (Int32.ofNat q), .int (Int32.ofNat len)] 7)) (T7.setTop (mkF m 32 #[.val (.ref b), .val (.int (Int32.ofNat (o + i))), .val (.ref d), .val (.int (Int32.ofNat (q + i))), .val (.int (Int32.ofNat len)), .val (.int (Int32.ofNat i)), .val (.int (cv A (o + i)))] [])) := c6.trans (st7 _ (Steps.refl _))
      have c9 : Steps p.tables e below (s₁.setTop (entryFrame m #[.ref b, .int (Int32.ofNat o), .ref d, .int (Int32.ofNat q), .int (Int32.ofNat len)] 7)) (T7.setTop (mkF m 3 #[.val (.ref b), .val (.int (Int32.ofNat (o + i) + 1)), .val (.ref d), .val (.int (Int32.ofNat (q + i) + 1)), .val (.int (Int32.ofNat len)), .val (.int (Int32.ofNat i + 1)), .val (.int (cv A (o + i)))] [])) := c8.trans (by
        refine iincV X7.here hexec rfl 1 (hb hbytes d32) (by decide) rfl rfl ?_
        refine iincV X7.here hexec rfl 1 (hb hbytes d35) (by decide) rfl rfl ?_
        refine iincV X7.here hexec rfl 1 (hb hbytes d38) (by decide) rfl rfl ?_
        refine XS.goto X7.here hexec rfl (pc0 := 41) rfl (hb hbytes d41) (by decide) rfl ?_
        exact Steps.refl _)
      have c10 : Steps p.tables e below (s₁.setTop (entryFrame m #[.ref b, .int (Int32.ofNat o), .ref d, .int (Int32.ofNat q), .int (Int32.ofNat len)] 7)) (T7.setTop (mkF m 3 #[.val (.ref b), .val (.int (Int32.ofNat (o + (i + 1)))), .val (.ref d), .val (.int (Int32.ofNat (q + (i + 1)))), .val (.int (Int32.ofNat len)), .val (.int (Int32.ofNat (i + 1))), .val (.int (cv A (o + i)))] [])) := by
        have := c9
        rw [succ32, succ32, succ32] at this
        exact this
      exact ih (i + 1) (by omega) _ (Or.inr ⟨_, rfl, rfl⟩) T7 _ (by rw [copyLocs_step, ← List.append_assoc]; exact X7) (pl.trans p7) (fl.step (by omega) hlt (by simp)) c10
  obtain ⟨T9, B9, z9, X9, p9, f9, g9⟩ := loop len 0 (by omega) .unset (Or.inl rfl) s₁ B (by simpa [copyLocs] using X0) ⟨hB0.1, fun _ _ => rfl, rfl⟩ (Laid.zero _ _ _) c2
  have c11 : Steps p.tables e below (s₁.setTop (entryFrame m #[.ref b, .int (Int32.ofNat o), .ref d, .int (Int32.ofNat q), .int (Int32.ofNat len)] 7)) (T9.setTop (mkF m 46 #[.val (.ref b), .val (.int (Int32.ofNat (o + len))), .val (.ref d), .val (.int (Int32.ofNat (q + len))), .val (.int (Int32.ofNat len)), .val (.int (Int32.ofNat len)), z9] [.int (Int32.ofNat len)])) := g9.trans (by
    refine XS.iload X9.here hexec rfl (hb hbytes d3) rfl ?_
    refine XS.iload X9.here hexec rfl (hb hbytes d5) rfl ?_
    refine XS.icmpYes X9.here hexec rfl (pc0 := 7) rfl (hb hbytes d7) rfl (ii_ge_t (nlt32 (by omega) (Nat.le_refl _))) (by decide) rfl ?_
    refine XS.iload X9.here hexec rfl (hb hbytes d44) rfl ?_
    exact Steps.refl _)
  exact ⟨T9, some (.int (Int32.ofNat len)), _, _, _, X9, by simp, rfl, rfl, (fun h => by cases h), ⟨rfl, B9, p9.from hh0, f9⟩, fun fs hl => c11.trans (X9.ireturnOut hexec hret rfl (Or.inl rfl) (hb hbytes d46) hl)⟩
end Cmp5
namespace Cmp3
def yN : MethodName := ⟨"java/lang/StringUTF16", "compress", "([CII)[B"⟩
abbrev yB : ByteArray := jdk_52_method_16_code
theorem d0 : decode yB 0 = .ok (.iload_n 2, 1) := by decide +kernel
theorem d1 : decode yB 1 = .ok (.newarray .byte, 2) := by decide +kernel
theorem d3 : decode yB 3 = .ok (.astore_n 3, 1) := by decide +kernel
theorem d4 : decode yB 4 = .ok (.aload_n 0, 1) := by decide +kernel
theorem d5 : decode yB 5 = .ok (.iload_n 1, 1) := by decide +kernel
theorem d6 : decode yB 6 = .ok (.aload_n 3, 1) := by decide +kernel
theorem d7 : decode yB 7 = .ok (.iconst 0, 1) := by decide +kernel
theorem d8 : decode yB 8 = .ok (.iload_n 2, 1) := by decide +kernel
theorem d9 : decode yB 9 = .ok (.invokestatic 115, 3) := by decide +kernel
theorem d12 : decode yB 12 = .ok (.istore 4, 2) := by decide +kernel
theorem d14 : decode yB 14 = .ok (.iload 4, 2) := by decide +kernel
theorem d16 : decode yB 16 = .ok (.iload_n 2, 1) := by decide +kernel
theorem d17 : decode yB 17 = .ok (.if_icmp (.eq) 40, 3) := by decide +kernel
theorem d57 : decode yB 57 = .ok (.aload_n 3, 1) := by decide +kernel
theorem d58 : decode yB 58 = .ok (.areturn, 1) := by decide +kernel
def site : List Cond := [.arrayClass .byte, Cmp5.tab] ++ staticW U16 115 Cmp5.yN
def tab : Cond := tabOf yN yB 6 (some (.array .byte)) site
def P (b : Addr) (A : Cell) (o len : Nat) (args : Array Value) (s : State) : Prop := args = #[.ref b, .int (Int32.ofNat o), .int (Int32.ofNat len)] ∧ Ch b A s ∧ o + len ≤ A.slots.size ∧ len ≤ 536870912 ∧ ∀ i, i < len → ¬ 255 < cv A (o + i)
def E (b : Addr) (A : Cell) (o len : Nat) (r : Option Value) (s u : State) : Prop := NewArr .byte "[B" len (fun j => .int (lo8 (cv A (o + j)))) r s u ∧ u.heap.size = s.heap.size + 1
/-- no char of the range above 255: a new byte[] of their low bytes -/
theorem law (l : Launch) (b : Addr) (A : Cell) (o len : Nat) : Law l yN 3 3 1 18 yB 6 (some (.array .byte)) site (P b A o len) (E b A o len) [] 1 len := by
  refine Law.of_walk (plainFor_of_name (by decide +kernel)) (by decide +kernel) (by decide +kernel) (by decide) (fun _ _ h => by rw [h.1]; rfl) (fun _ U U' hal hh h => ⟨h.1, h.2.1.mv hal hh, h.2.2⟩) (fun r U U' V V' h1 hal h2 h => ⟨NewArr.mv r U U' V V' h1 hal h2 h.1, by rw [h1, h2]; exact h.2⟩) ?_
  intro p e s m args below meth c s₁ X0 hexec hbytes hml hret hlk hnm hown hh0 W hP
  obtain ⟨rfl, hA, l1, l2, hp⟩ := hP
  have a31 := hA.1.2.2.2
  have c1 : Steps p.tables e below (s₁.setTop (entryFrame m #[.ref b, .int (Int32.ofNat o), .int (Int32.ofNat len)] 6)) (s₁.setTop (mkF m 0 #[.val (.ref b), .val (.int (Int32.ofNat o)), .val (.int (Int32.ofNat len)), .unset, .unset, .unset] [])) := entry rfl
  have c2 : Steps p.tables e below (s₁.setTop (entryFrame m #[.ref b, .int (Int32.ofNat o), .int (Int32.ofNat len)] 6)) (s₁.setTop (mkF m 1 #[.val (.ref b), .val (.int (Int32.ofNat o)), .val (.int (Int32.ofNat len)), .unset, .unset, .unset] [.int (Int32.ofNat len)])) := c1.trans (by
    refine XS.iloadN X0.here hexec rfl (hb hbytes d0) rfl ?_
    exact Steps.refl _)
  obtain ⟨T3, B3, X3, ba3, bs3, bv3, bh3, bf3, st3⟩ := X0.anew hexec (atype := .byte) (wk W (.arrayClass .byte)) rfl (by show len * 1 ≤ _; omega) (by omega) (g := (mkF m 1 #[.val (.ref b), .val (.int (Int32.ofNat o)), .val (.int (Int32.ofNat len)), .unset, .unset, .unset] [.int (Int32.ofNat len)])) rfl (hb hbytes d1) (rest := []) rfl (Nat.le_refl _) (by show 0 + len ≤ len; omega)
  rw [hh0] at ba3 st3
  have kp3 : XT.Kept s T3 := (XT.Kept.of_eq hh0).push bh3
  have hA3 := hA.keep X3.warmed.alike (kp3 _ _ hA.1.1)
  have hne : b ≠ s.heap.size := hA.1.ne
  have c4 : Steps p.tables e below (s₁.setTop (entryFrame m #[.ref b, .int (Int32.ofNat o), .int (Int32.ofNat len)] 6)) (T3.setTop (mkF m 3 #[.val (.ref b), .val (.int (Int32.ofNat o)), .val (.int (Int32.ofNat len)), .unset, .unset, .unset] [.ref s.heap.size])) := c2.trans (st3 _ (Steps.refl _))
  have c5 : Steps p.tables e below (s₁.setTop (entryFrame m #[.ref b, .int (Int32.ofNat o), .int (Int32.ofNat len)] 6)) (T3.setTop (mkF m 9 #[.val (.ref b), .val (.int (Int32.ofNat o)), .val (.int (Int32.ofNat len)), .val (.ref s.heap.size), .unset, .unset] [.int (Int32.ofNat len), .int 0, .ref s.heap.size, .int (Int32.ofNat o), .ref b])) := c4.trans (by
    refine XS.astoreN X3.here hexec rfl (hb hbytes d3) rfl rfl rfl ?_
    refine XS.aloadN X3.here hexec rfl (hb hbytes d4) rfl rfl ?_
    refine XS.iloadN X3.here hexec rfl (hb hbytes d5) rfl ?_
    refine XS.aloadN X3.here hexec rfl (hb hbytes d6) rfl rfl ?_
    refine iconstV X3.here hexec rfl 0 (hb hbytes d7) (by decide) ?_
    refine XS.iloadN X3.here hexec rfl (hb hbytes d8) rfl ?_
    exact Steps.refl _)
  obtain ⟨v6, T6, X6, E6, g6⟩ := X3.callS hexec (Cmp5.law l b A s.heap.size B3 o 0 len) hown (wks W (staticW U16 115 Cmp5.yN)) (wk W Cmp5.tab) (W := 0) (Nat.le_of_ble_eq_true rfl) (Nat.le_of_ble_eq_true rfl) (Nat.le_refl _) (by show 0 + len + 0 ≤ len; omega) (g := (mkF m 9 #[.val (.ref b), .val (.int (Int32.ofNat o)), .val (.int (Int32.ofNat len)), .val (.ref s.heap.size), .unset, .unset] [.int (Int32.ofNat len), .int (Int32.ofNat 0), .ref s.heap.size, .int (Int32.ofNat o), .ref b])) rfl (by rw [hml]; rfl) c5 (argsL := [.ref b, .int (Int32.ofNat o), .ref s.heap.size, .int (Int32.ofNat 0), .int (Int32.ofNat len)]) (rest := []) rfl rfl (by show 2 * 0 + 0 ≤ _; decide) (hb hbytes d9) (⟨rfl, hA3, ba3, hne, l1, by rw [bs3]; simp, hp⟩)
  obtain ⟨rfl, B6, p6, f6⟩ := E6
  have c7 : Steps p.tables e below (s₁.setTop (entryFrame m #[.ref b, .int (Int32.ofNat o), .int (Int32.ofNat len)] 6)) (T6.setTop (mkF m 12 #[.val (.ref b), .val (.int (Int32.ofNat o)), .val (.int (Int32.ofNat len)), .val (.ref s.heap.size), .unset, .unset] [.int (Int32.ofNat len)])) := g6
  have c8 : Steps p.tables e below (s₁.setTop (entryFrame m #[.ref b, .int (Int32.ofNat o), .int (Int32.ofNat len)] 6)) (T6.setTop (mkF m 58 #[.val (.ref b), .val (.int (Int32.ofNat o)), .val (.int (Int32.ofNat len)), .val (.ref s.heap.size), .val (.int (Int32.ofNat len)), .unset] [.ref s.heap.size])) := c7.trans (by
    refine XS.istore X6.here hexec rfl (hb hbytes d12) rfl rfl ?_
    refine XS.iload X6.here hexec rfl (hb hbytes d14) rfl ?_
    refine XS.iloadN X6.here hexec rfl (hb hbytes d16) rfl ?_
    refine XS.icmpYes X6.here hexec rfl (pc0 := 17) rfl (hb hbytes d17) rfl (ii_eq_t rfl) (by decide) rfl ?_
    refine XS.aloadN X6.here hexec rfl (hb hbytes d57) rfl rfl ?_
    exact Steps.refl _)
  have X8 := X6.wide (L' := []) (cells' := 1) (slots' := len) (fun x hx hlt => by
    simp only [List.nil_append, copyLocs, List.mem_map, List.mem_range] at hx
    obtain ⟨i, -, rfl⟩ := hx
    exact absurd hlt (Nat.lt_irrefl _)) (Nat.le_refl _) (by omega)
  exact ⟨T6, some (.ref s.heap.size), _, _, _, X8, rfl, rfl, rfl, (fun h => by cases h), ⟨⟨rfl, B6, ba3.like (X3.warmed.alike.symm.trans X6.warmed.alike) p6.1 f6.1 f6.2.1 f6.2.2.1, f6.2.1.trans bv3, by rw [X6.warmed.alike.findClass, f6.1]; exact bf3, by rw [f6.2.2.1, bs3]; simp, fun j hj => by rw [f6.2.2.2 j, if_pos (by omega)]; rfl, kp3.put p6 (Nat.le_refl _)⟩, by rw [p6.2.2, bh3, hh0]; simp⟩, fun fs hl => c8.trans (X8.areturnOut hexec rfl hret rfl (hb hbytes d58) hl)⟩
end Cmp3
namespace CodL
def yN : MethodName := ⟨"java/lang/StringUTF16", "coderFromArrayLen", "([BI)B"⟩
abbrev yB : ByteArray := jdk_52_method_15_code
theorem d0 : decode yB 0 = .ok (.iload_n 1, 1) := by decide +kernel
theorem d1 : decode yB 1 = .ok (.aload_n 0, 1) := by decide +kernel
theorem d2 : decode yB 2 = .ok (.arraylength, 1) := by decide +kernel
theorem d3 : decode yB 3 = .ok (.isub, 1) := by decide +kernel
theorem d4 : decode yB 4 = .ok (.bipush 31, 2) := by decide +kernel
theorem d6 : decode yB 6 = .ok (.iushr, 1) := by decide +kernel
theorem d7 : decode yB 7 = .ok (.i2b, 1) := by decide +kernel
theorem d8 : decode yB 8 = .ok (.ireturn, 1) := by decide +kernel
def site : List Cond := []
def tab : Cond := tabOf yN yB 2 (some .byte) site
def P (d : Addr) (B : Cell) (args : Array Value) (s : State) : Prop := args = #[.ref d, .int (Int32.ofNat B.slots.size)] ∧ Arr .byte d B s
def E (r : Option Value) (s u : State) : Prop := XT.PureE (some (.int 0)) r s u
/-- an array as long as the number of chars: LATIN1 -/
theorem law (l : Launch) (d : Addr) (B : Cell) : Law l yN 2 2 0 0 yB 2 (some .byte) site (P d B) E [] 0 0 := by
  refine Law.of_walk (plainFor_of_name (by decide +kernel)) (by decide +kernel) (by decide +kernel) (by decide) (fun _ _ h => by rw [h.1]; rfl) (fun _ U U' hal hh h => ⟨h.1, h.2.mv hal hh⟩) (fun r U U' V V' h1 hal h2 h => XT.PureE.mv r U U' V V' h1 hal h2 h) ?_
  intro p e s m args below meth c s₁ X0 hexec hbytes hml hret hlk hnm hown hh0 W hP
  obtain ⟨rfl, hB⟩ := hP
  have hB0 := hB.mv X0.warmed.alike hh0
  have c1 : Steps p.tables e below (s₁.setTop (entryFrame m #[.ref d, .int (Int32.ofNat B.slots.size)] 2)) (s₁.setTop (mkF m 0 #[.val (.ref d), .val (.int (Int32.ofNat B.slots.size))] [])) := entry rfl
  have c2 : Steps p.tables e below (s₁.setTop (entryFrame m #[.ref d, .int (Int32.ofNat B.slots.size)] 2)) (s₁.setTop (mkF m 2 #[.val (.ref d), .val (.int (Int32.ofNat B.slots.size))] [.ref d, .int (Int32.ofNat B.slots.size)])) := c1.trans (by
    refine XS.iloadN X0.here hexec rfl (hb hbytes d0) rfl ?_
    refine XS.aloadN X0.here hexec rfl (hb hbytes d1) rfl rfl ?_
    exact Steps.refl _)
  have c3 : Steps p.tables e below (s₁.setTop (entryFrame m #[.ref d, .int (Int32.ofNat B.slots.size)] 2)) (s₁.setTop (mkF m 8 #[.val (.ref d), .val (.int (Int32.ofNat B.slots.size))] [.int (lo8 (ushr (Int32.ofNat B.slots.size - Int32.ofNat B.slots.size) 31))])) := c2.trans (by
    refine X0.alen hexec hB0 rfl rfl (hb hbytes d2) ?_
    refine XS.isub X0.here hexec rfl (hb hbytes d3) rfl ?_
    refine bipushV X0.here hexec rfl 31 (hb hbytes d4) (by decide) ?_
    refine iushr X0.here hexec rfl (hb hbytes d6) rfl ?_
    refine i2b X0.here hexec rfl (hb hbytes d7) rfl ?_
    exact Steps.refl _)
  have e0 : lo8 (ushr (Int32.ofNat B.slots.size - Int32.ofNat B.slots.size) 31) = 0 := by rw [Int32.sub_self]; decide
  rw [e0] at c3
  exact ⟨s₁, some (.int 0), _, _, _, X0, rfl, rfl, rfl, (fun h => by cases h), ⟨rfl, hh0⟩, fun fs hl => c3.trans (X0.ireturnOut hexec hret rfl (Or.inr (Or.inr (Or.inl rfl))) (hb hbytes d8) hl)⟩
end CodL
/-- the String at a is Latin-1 over a new byte[] (the heap's one new cell): the low bytes of the len chars of A from o on; every cell but a is kept -/
def Got (a : Addr) (D : Cell) (fV fC : Field) (A : Cell) (o len : Nat) (r : Option Value) (s u : State) : Prop := r = none ∧ ∃ D' V : Cell, Blank "java/lang/String" a D' u ∧ Same D D' [fV.slot, fC.slot] ∧ D'.slots[fV.slot]? = some (.ref s.heap.size) ∧ D'.slots[fC.slot]? = some (.int 0) ∧ Arr .byte s.heap.size V u ∧ V.vm = .none ∧ u.vm.findClass "[B" = some V.cls ∧ V.slots.size = len ∧ (∀ j, j < len → V.slots[j]? = some (.int (lo8 (cv A (o + j))))) ∧ (∀ (y : Addr) (c : Cell), y ≠ a → s.heap[y]? = some c → u.heap[y]? = some c) ∧ u.heap.size = s.heap.size + 1
theorem Got.mv {a : Addr} {D A : Cell} {fV fC : Field} {o len : Nat} : ∀ r (U U' V V' : State), U'.heap = U.heap → V.vm.Alike V'.vm → V'.heap = V.heap → Got a D fV fC A o len r U V → Got a D fV fC A o len r U' V' :=
  fun r U U' V V' h1 hal h2 ⟨e0, D', X, a1, a2, a3, a4, a5, a6, a7, a8, a9, a10, a11⟩ => ⟨e0, D', X, a1.mv hal h2, a2, by rw [h1]; exact a3, a4, by rw [h1]; exact a5.mv hal h2, a6, by rw [hal.findClass]; exact a7, a8, a9, by rw [h1, h2]; exact a10, by rw [h1, h2]; exact a11⟩
namespace New4
def yN : MethodName := ⟨"java/lang/String", "<init>", "([CIILjava/lang/Void;)V"⟩
abbrev yB : ByteArray := jdk_42_method_149_code
theorem d0 : decode yB 0 = .ok (.aload_n 0, 1) := by decide +kernel
theorem d1 : decode yB 1 = .ok (.invokespecial 1, 3) := by decide +kernel
theorem d4 : decode yB 4 = .ok (.iload_n 3, 1) := by decide +kernel
theorem d5 : decode yB 5 = .ok (.ifCond (.ne) 22, 3) := by decide +kernel
theorem d27 : decode yB 27 = .ok (.getstatic 38, 3) := by decide +kernel
theorem d30 : decode yB 30 = .ok (.ifCond (.eq) 28, 3) := by decide +kernel
theorem d33 : decode yB 33 = .ok (.aload_n 1, 1) := by decide +kernel
theorem d34 : decode yB 34 = .ok (.iload_n 2, 1) := by decide +kernel
theorem d35 : decode yB 35 = .ok (.iload_n 3, 1) := by decide +kernel
theorem d36 : decode yB 36 = .ok (.invokestatic 177, 3) := by decide +kernel
theorem d39 : decode yB 39 = .ok (.astore 5, 2) := by decide +kernel
theorem d41 : decode yB 41 = .ok (.aload_n 0, 1) := by decide +kernel
theorem d42 : decode yB 42 = .ok (.aload 5, 2) := by decide +kernel
theorem d44 : decode yB 44 = .ok (.iload_n 3, 1) := by decide +kernel
theorem d45 : decode yB 45 = .ok (.invokestatic 47, 3) := by decide +kernel
theorem d48 : decode yB 48 = .ok (.putfield 15, 3) := by decide +kernel
theorem d51 : decode yB 51 = .ok (.aload_n 0, 1) := by decide +kernel
theorem d52 : decode yB 52 = .ok (.aload 5, 2) := by decide +kernel
theorem d54 : decode yB 54 = .ok (.putfield 9, 3) := by decide +kernel
theorem d57 : decode yB 57 = .ok (.return_, 1) := by decide +kernel
def site : List Cond := [.fieldLink "java/lang/String" 38 "java/lang/String" "COMPACT_STRINGS" "Z", Cmp3.tab, CodL.tab, .laysFinal "java/lang/String" "java/lang/String" "value" "[B", .fieldLink "java/lang/String" 9 "java/lang/String" "value" "[B", .laysFinal "java/lang/String" "java/lang/String" "coder" "B", .fieldLink "java/lang/String" 15 "java/lang/String" "coder" "B"] ++ objW "java/lang/String" 1 ++ staticW "java/lang/String" 177 Cmp3.yN ++ staticW "java/lang/String" 47 CodL.yN
def tab : Cond := tabOf yN yB 6 none site
def P (a : Addr) (D : Cell) (fV fC : Field) (b : Addr) (A : Cell) (z : Int32) (o len : Nat) (args : Array Value) (s : State) : Prop := args = #[.ref a, .ref b, .int (Int32.ofNat o), .int (Int32.ofNat len), .null] ∧ Blank "java/lang/String" a D s ∧ Found "java/lang/String" "value" "[B" fV s ∧ Found "java/lang/String" "coder" "B" fC s ∧ Ch b A s ∧ StaticIs s "java/lang/String" "COMPACT_STRINGS" "Z" (.int z) ∧ ¬ z = 0 ∧ 0 < len ∧ o + len ≤ A.slots.size ∧ len ≤ 536870912 ∧ ∀ i, i < len → ¬ 255 < cv A (o + i)
def E (a : Addr) (D : Cell) (fV fC : Field) (A : Cell) (o len : Nat) (r : Option Value) (s u : State) : Prop := Got a D fV fC A o len r s u
/-- len > 0, no char of the range above 255: a Latin-1 String of their low bytes -/
theorem law (l : Launch) (a : Addr) (D : Cell) (fV fC : Field) (b : Addr) (A : Cell) (z : Int32) (o len : Nat) : Law l yN 5 4 2 35 yB 6 none site (P a D fV fC b A z o len) (E a D fV fC A o len) [⟨a, fC.slot⟩, ⟨a, fV.slot⟩] 1 len := by
  refine Law.of_walk (plainFor_of_name (by decide +kernel)) (by decide +kernel) (by decide +kernel) (by decide) (fun _ _ h => by rw [h.1]; rfl) (fun _ U U' hal hh h => ⟨h.1, h.2.1.mv hal hh, h.2.2.1.al hal, h.2.2.2.1.al hal, h.2.2.2.2.1.mv hal hh, h.2.2.2.2.2.1.there hal hh, h.2.2.2.2.2.2⟩) (fun r U U' V V' h1 hal h2 h => Got.mv r U U' V V' h1 hal h2 h) ?_
  intro p e s m args below meth c s₁ X0 hexec hbytes hml hret hlk hnm hown hh0 W hP
  obtain ⟨rfl, hB, f1, f2, hA, s1, hz, l0, l1, l2, hp⟩ := hP
  have a31 := hA.1.2.2.2
  have c1 : Steps p.tables e below (s₁.setTop (entryFrame m #[.ref a, .ref b, .int (Int32.ofNat o), .int (Int32.ofNat len), .null] 6)) (s₁.setTop (mkF m 0 #[.val (.ref a), .val (.ref b), .val (.int (Int32.ofNat o)), .val (.int (Int32.ofNat len)), .val .null, .unset] [])) := entry rfl
  have c2 : Steps p.tables e below (s₁.setTop (entryFrame m #[.ref a, .ref b, .int (Int32.ofNat o), .int (Int32.ofNat len), .null] 6)) (s₁.setTop (mkF m 1 #[.val (.ref a), .val (.ref b), .val (.int (Int32.ofNat o)), .val (.int (Int32.ofNat len)), .val .null, .unset] [.ref a])) := c1.trans (by
    refine XS.aloadN X0.here hexec rfl (hb hbytes d0) rfl rfl ?_
    exact Steps.refl _)
  obtain ⟨T3, X3, q3, st3⟩ := X0.oinit hexec hown (wks W (objW "java/lang/String" 1)) (g := (mkF m 1 #[.val (.ref a), .val (.ref b), .val (.int (Int32.ofNat o)), .val (.int (Int32.ofNat len)), .val .null, .unset] [.ref a])) rfl (by rw [hml]; rfl) (rest := []) rfl (hb hbytes d1) (W := 0) (by show 2 * 0 + 0 ≤ _; decide) (Nat.le_of_ble_eq_true rfl) (Nat.le_of_ble_eq_true rfl)
  have hh3 := q3.trans hh0
  have c4 : Steps p.tables e below (s₁.setTop (entryFrame m #[.ref a, .ref b, .int (Int32.ofNat o), .int (Int32.ofNat len), .null] 6)) (T3.setTop (mkF m 27 #[.val (.ref a), .val (.ref b), .val (.int (Int32.ofNat o)), .val (.int (Int32.ofNat len)), .val .null, .unset] [])) := (c2.trans (st3 _ (Steps.refl _))).trans (by
    refine XS.iloadN X3.here hexec rfl (hb hbytes d4) rfl ?_
    refine XS.ifYes X3.here hexec rfl (pc0 := 5) rfl (hb hbytes d5) rfl (i0_ne_t (nz32 (by omega) l0)) (by decide) rfl ?_
    exact Steps.refl _)
  obtain ⟨T5, X5, q5, st5⟩ := X3.sget hexec hown (wk W (.fieldLink "java/lang/String" 38 "java/lang/String" "COMPACT_STRINGS" "Z")) s1 (fun _ _ h => by rw [hh3]; exact h) (g := (mkF m 27 #[.val (.ref a), .val (.ref b), .val (.int (Int32.ofNat o)), .val (.int (Int32.ofNat len)), .val .null, .unset] [])) rfl (hb hbytes d27)
  have hh5 := q5.trans hh3
  have c6 : Steps p.tables e below (s₁.setTop (entryFrame m #[.ref a, .ref b, .int (Int32.ofNat o), .int (Int32.ofNat len), .null] 6)) (T5.setTop (mkF m 30 #[.val (.ref a), .val (.ref b), .val (.int (Int32.ofNat o)), .val (.int (Int32.ofNat len)), .val .null, .unset] [.int z])) := c4.trans (st5 _ (Steps.refl _))
  have c7 : Steps p.tables e below (s₁.setTop (entryFrame m #[.ref a, .ref b, .int (Int32.ofNat o), .int (Int32.ofNat len), .null] 6)) (T5.setTop (mkF m 36 #[.val (.ref a), .val (.ref b), .val (.int (Int32.ofNat o)), .val (.int (Int32.ofNat len)), .val .null, .unset] [.int (Int32.ofNat len), .int (Int32.ofNat o), .ref b])) := c6.trans (by
    refine XS.ifNo X5.here hexec rfl (hb hbytes d30) rfl (i0_eq_f hz) ?_
    refine XS.aloadN X5.here hexec rfl (hb hbytes d33) rfl rfl ?_
    refine XS.iloadN X5.here hexec rfl (hb hbytes d34) rfl ?_
    refine XS.iloadN X5.here hexec rfl (hb hbytes d35) rfl ?_
    exact Steps.refl _)
  obtain ⟨v8, T8, X8, E8, g8⟩ := X5.callS hexec (Cmp3.law l b A o len) hown (wks W (staticW "java/lang/String" 177 Cmp3.yN)) (wk W Cmp3.tab) (W := 0) (Nat.le_of_ble_eq_true rfl) (Nat.le_of_ble_eq_true rfl) (Nat.le_refl _) (by show 0 + len ≤ len; omega) (g := (mkF m 36 #[.val (.ref a), .val (.ref b), .val (.int (Int32.ofNat o)), .val (.int (Int32.ofNat len)), .val .null, .unset] [.int (Int32.ofNat len), .int (Int32.ofNat o), .ref b])) rfl (by rw [hml]; rfl) c7 (argsL := [.ref b, .int (Int32.ofNat o), .int (Int32.ofNat len)]) (rest := []) rfl rfl (by show 2 * 0 + 0 ≤ _; decide) (hb hbytes d36) (⟨rfl, hA.mv X5.warmed.alike hh5, l1, l2, hp⟩)
  obtain ⟨e8, z8⟩ := E8
  obtain ⟨rfl, N, n1, n2, n3, n4, n5, n6⟩ := NewArr.mv _ T5 s _ _ hh5.symm (Vm.Alike.refl _) rfl e8
  rw [hh5] at z8
  have hB1 := hB.keep X8.warmed.alike (n6 _ _ hB.1)
  have hne : s.heap.size ≠ a := (Nat.ne_of_lt (Array.getElem?_eq_some_iff.mp hB.1).1).symm
  have c9 : Steps p.tables e below (s₁.setTop (entryFrame m #[.ref a, .ref b, .int (Int32.ofNat o), .int (Int32.ofNat len), .null] 6)) (T8.setTop (mkF m 39 #[.val (.ref a), .val (.ref b), .val (.int (Int32.ofNat o)), .val (.int (Int32.ofNat len)), .val .null, .unset] [.ref s.heap.size])) := g8
  have c10 : Steps p.tables e below (s₁.setTop (entryFrame m #[.ref a, .ref b, .int (Int32.ofNat o), .int (Int32.ofNat len), .null] 6)) (T8.setTop (mkF m 45 #[.val (.ref a), .val (.ref b), .val (.int (Int32.ofNat o)), .val (.int (Int32.ofNat len)), .val .null, .val (.ref s.heap.size)] [.int (Int32.ofNat N.slots.size), .ref s.heap.size, .ref a])) := by
    have hc : Steps p.tables e below (s₁.setTop (entryFrame m #[.ref a, .ref b, .int (Int32.ofNat o), .int (Int32.ofNat len), .null] 6)) (T8.setTop (mkF m 45 #[.val (.ref a), .val (.ref b), .val (.int (Int32.ofNat o)), .val (.int (Int32.ofNat len)), .val .null, .val (.ref s.heap.size)] [.int (Int32.ofNat len), .ref s.heap.size, .ref a])) := c9.trans (by
      refine XS.astore X8.here hexec rfl (hb hbytes d39) rfl rfl rfl ?_
      refine XS.aloadN X8.here hexec rfl (hb hbytes d41) rfl rfl ?_
      refine XS.aload X8.here hexec rfl (hb hbytes d42) rfl rfl ?_
      refine XS.iloadN X8.here hexec rfl (hb hbytes d44) rfl ?_
      exact Steps.refl _)
    rw [n4]; exact hc
  obtain ⟨v11, T11, X11, E11, g11⟩ := X8.callS hexec (CodL.law l s.heap.size N) hown (wks W (staticW "java/lang/String" 47 CodL.yN)) (wk W CodL.tab) (W := 1) (Nat.le_of_ble_eq_true rfl) (Nat.le_of_ble_eq_true rfl) (Nat.le_refl _) (by show 0 + len + 0 ≤ len; omega) (g := (mkF m 45 #[.val (.ref a), .val (.ref b), .val (.int (Int32.ofNat o)), .val (.int (Int32.ofNat len)), .val .null, .val (.ref s.heap.size)] [.int (Int32.ofNat N.slots.size), .ref s.heap.size, .ref a])) rfl (by rw [hml]; rfl) c10 (argsL := [.ref s.heap.size, .int (Int32.ofNat N.slots.size)]) (rest := [.ref a]) rfl rfl (by show 2 * 0 + (1 + 0) ≤ _; decide) (hb hbytes d45) (⟨rfl, n1⟩)
  obtain ⟨rfl, q11⟩ := E11
  have hB11 := hB1.mv (X8.warmed.alike.symm.trans X11.warmed.alike) q11
  have c12 : Steps p.tables e below (s₁.setTop (entryFrame m #[.ref a, .ref b, .int (Int32.ofNat o), .int (Int32.ofNat len), .null] 6)) (T11.setTop (mkF m 48 #[.val (.ref a), .val (.ref b), .val (.int (Int32.ofNat o)), .val (.int (Int32.ofNat len)), .val .null, .val (.ref s.heap.size)] [.int 0, .ref a])) := g11
  obtain ⟨T13, X13, p13, bl13, sl13, st13⟩ := X11.finit hexec hown (wk W (.fieldLink "java/lang/String" 15 "java/lang/String" "coder" "B")) (Or.inr ⟨_, (wk W (.laysFinal "java/lang/String" "java/lang/String" "coder" "B"))⟩) (Or.inl ⟨rfl, hnm⟩) f2 (Or.inl rfl) hB11 (t := .byte) (by decide +kernel) rfl (g := (mkF m 48 #[.val (.ref a), .val (.ref b), .val (.int (Int32.ofNat o)), .val (.int (Int32.ofNat len)), .val .null, .val (.ref s.heap.size)] [.int 0, .ref a])) rfl (rest := []) rfl (hb hbytes d48)
  have c14 : Steps p.tables e below (s₁.setTop (entryFrame m #[.ref a, .ref b, .int (Int32.ofNat o), .int (Int32.ofNat len), .null] 6)) (T13.setTop (mkF m 54 #[.val (.ref a), .val (.ref b), .val (.int (Int32.ofNat o)), .val (.int (Int32.ofNat len)), .val .null, .val (.ref s.heap.size)] [.ref s.heap.size, .ref a])) := (c12.trans (st13 _ (Steps.refl _))).trans (by
    refine XS.aloadN X13.here hexec rfl (hb hbytes d51) rfl rfl ?_
    refine XS.aload X13.here hexec rfl (hb hbytes d52) rfl rfl ?_
    exact Steps.refl _)
  obtain ⟨T15, X15, p15, bl15, sl15, st15⟩ := X13.finit hexec hown (wk W (.fieldLink "java/lang/String" 9 "java/lang/String" "value" "[B")) (Or.inr ⟨_, (wk W (.laysFinal "java/lang/String" "java/lang/String" "value" "[B"))⟩) (Or.inl ⟨rfl, hnm⟩) f1 (Or.inl rfl) bl13 (t := (.array .byte)) (by decide +kernel) rfl (g := (mkF m 54 #[.val (.ref a), .val (.ref b), .val (.int (Int32.ofNat o)), .val (.int (Int32.ofNat len)), .val .null, .val (.ref s.heap.size)] [.ref s.heap.size, .ref a])) rfl (rest := []) rfl (hb hbytes d54)
  have c16 : Steps p.tables e below (s₁.setTop (entryFrame m #[.ref a, .ref b, .int (Int32.ofNat o), .int (Int32.ofNat len), .null] 6)) (T15.setTop (mkF m 57 #[.val (.ref a), .val (.ref b), .val (.int (Int32.ofNat o)), .val (.int (Int32.ofNat len)), .val .null, .val (.ref s.heap.size)] [])) := c14.trans (st15 _ (Steps.refl _))
  have ap := apart (Or.inr ⟨_, (wk W (.laysFinal "java/lang/String" "java/lang/String" "value" "[B"))⟩) (Or.inr ⟨_, (wk W (.laysFinal "java/lang/String" "java/lang/String" "coder" "B"))⟩) f1 f2 (t₁ := .array .byte) (t₂ := .byte) (by decide +kernel) (by decide +kernel) (by decide)
  have al := X8.warmed.alike.symm.trans X15.warmed.alike
  have n7 : T11.heap[s.heap.size]? = some N := by rw [q11]; exact n1.1
  exact ⟨T15, none, _, _, _, X15, by simp, rfl, by omega, (fun _ => rfl), ⟨rfl, _, N, bl15, ((Same.refl D _).set _ (by simp)).set _ (by simp), sl15, (Cell.slots_setSlot_ne _ ap).trans sl13, n1.keep al (p15.other hne (p13.other hne n7)), n2, by rw [al.findClass]; exact n3, n4, n5, fun y c h1 h2 => p15.other h1 (p13.other h1 (by rw [q11]; exact n6 y c h2)), by rw [p15.2.2, p13.2.2, q11]; exact z8⟩, fun fs hl => c16.trans (X15.returnOut hexec hret (hb hbytes d57) hl)⟩
end New4
namespace New1
def yN : MethodName := ⟨"java/lang/String", "<init>", "([C)V"⟩
abbrev yB : ByteArray := jdk_42_method_3_code
theorem d0 : decode yB 0 = .ok (.aload_n 0, 1) := by decide +kernel
theorem d1 : decode yB 1 = .ok (.aload_n 1, 1) := by decide +kernel
theorem d2 : decode yB 2 = .ok (.iconst 0, 1) := by decide +kernel
theorem d3 : decode yB 3 = .ok (.aload_n 1, 1) := by decide +kernel
theorem d4 : decode yB 4 = .ok (.arraylength, 1) := by decide +kernel
theorem d5 : decode yB 5 = .ok (.aconst_null, 1) := by decide +kernel
theorem d6 : decode yB 6 = .ok (.invokespecial 27, 3) := by decide +kernel
theorem d9 : decode yB 9 = .ok (.return_, 1) := by decide +kernel
def site : List Cond := [New4.tab] ++ initW "java/lang/String" 27 New4.yN
def tab : Cond := tabOf yN yB 2 none site
def P (a : Addr) (D : Cell) (fV fC : Field) (b : Addr) (A : Cell) (z : Int32) (args : Array Value) (s : State) : Prop := args = #[.ref a, .ref b] ∧ Blank "java/lang/String" a D s ∧ Found "java/lang/String" "value" "[B" fV s ∧ Found "java/lang/String" "coder" "B" fC s ∧ Ch b A s ∧ StaticIs s "java/lang/String" "COMPACT_STRINGS" "Z" (.int z) ∧ ¬ z = 0 ∧ 0 < A.slots.size ∧ A.slots.size ≤ 536870912 ∧ ∀ i, i < A.slots.size → ¬ 255 < cv A i
def E (a : Addr) (D : Cell) (fV fC : Field) (A : Cell) (r : Option Value) (s u : State) : Prop := Got a D fV fC A 0 A.slots.size r s u
/-- new String(chars), not empty, no char above 255: a Latin-1 String of their low bytes -/
theorem law (l : Launch) (a : Addr) (D : Cell) (fV fC : Field) (b : Addr) (A : Cell) (z : Int32) : Law l yN 2 1 3 52 yB 2 none site (P a D fV fC b A z) (E a D fV fC A) [⟨a, fC.slot⟩, ⟨a, fV.slot⟩] 1 A.slots.size := by
  refine Law.of_walk (plainFor_of_name (by decide +kernel)) (by decide +kernel) (by decide +kernel) (by decide) (fun _ _ h => by rw [h.1]; rfl) (fun _ U U' hal hh h => ⟨h.1, h.2.1.mv hal hh, h.2.2.1.al hal, h.2.2.2.1.al hal, h.2.2.2.2.1.mv hal hh, h.2.2.2.2.2.1.there hal hh, h.2.2.2.2.2.2⟩) (fun r U U' V V' h1 hal h2 h => Got.mv r U U' V V' h1 hal h2 h) ?_
  intro p e s m args below meth c s₁ X0 hexec hbytes hml hret hlk hnm hown hh0 W hP
  obtain ⟨rfl, hB, f1, f2, hA, s1, hz, l0, l2, hp⟩ := hP
  have c1 : Steps p.tables e below (s₁.setTop (entryFrame m #[.ref a, .ref b] 2)) (s₁.setTop (mkF m 0 #[.val (.ref a), .val (.ref b)] [])) := entry rfl
  have c2 : Steps p.tables e below (s₁.setTop (entryFrame m #[.ref a, .ref b] 2)) (s₁.setTop (mkF m 6 #[.val (.ref a), .val (.ref b)] [.null, .int (Int32.ofNat A.slots.size), .int 0, .ref b, .ref a])) := c1.trans (by
    refine XS.aloadN X0.here hexec rfl (hb hbytes d0) rfl rfl ?_
    refine XS.aloadN X0.here hexec rfl (hb hbytes d1) rfl rfl ?_
    refine iconstV X0.here hexec rfl 0 (hb hbytes d2) (by decide) ?_
    refine XS.aloadN X0.here hexec rfl (hb hbytes d3) rfl rfl ?_
    refine X0.alen hexec (hA.1.mv X0.warmed.alike hh0) rfl rfl (hb hbytes d4) ?_
    refine XS.aconstNull X0.here hexec rfl (hb hbytes d5) ?_
    exact Steps.refl _)
  obtain ⟨v3, T3, X3, E3, g3⟩ := X0.callN hexec (New4.law l a D fV fC b A z 0 A.slots.size) rfl hown (wks W (initW "java/lang/String" 27 New4.yN)) (W New4.tab (by simp only [site, List.mem_cons, List.mem_append, true_or, or_true])) (W := 0) (Nat.le_of_ble_eq_true rfl) (Nat.le_of_ble_eq_true rfl) (Nat.le_refl _) (by show 0 + A.slots.size ≤ A.slots.size; omega) (g := (mkF m 6 #[.val (.ref a), .val (.ref b)] [.null, .int (Int32.ofNat A.slots.size), .int (Int32.ofNat 0), .ref b, .ref a])) rfl (by rw [hml]; rfl) c2 (argsL := [.ref b, .int (Int32.ofNat 0), .int (Int32.ofNat A.slots.size), .null]) (rest := []) rfl rfl (by show 2 * 0 + 0 ≤ _; decide) (hb hbytes d6) (⟨rfl, hB.mv X0.warmed.alike hh0, f1.al X0.warmed.alike, f2.al X0.warmed.alike, hA.mv X0.warmed.alike hh0, s1.there X0.warmed.alike hh0, hz, l0, by omega, l2, fun i hi => by rw [Nat.zero_add]; exact hp i hi⟩)
  have e0 := Got.mv _ s₁ s _ _ hh0.symm (Vm.Alike.refl _) rfl E3
  obtain rfl := e0.1
  have c4 : Steps p.tables e below (s₁.setTop (entryFrame m #[.ref a, .ref b] 2)) (T3.setTop (mkF m 9 #[.val (.ref a), .val (.ref b)] [])) := g3
  exact ⟨T3, none, _, _, _, X3, by simp, rfl, by omega, (fun _ => rfl), e0, fun fs hl => c4.trans (X3.returnOut hexec hret (hb hbytes d9) hl)⟩
theorem pays {l : Launch} {R : Room} {p : Program} {e : Env} {below : List Frame} {s : State} {sargs : Array Value} {len W : Nat} (a : Addr) (D : Cell) (fV fC : Field) (b : Addr) (A : Cell) (z : Int32) (htab : tab.before sargs s = true) (hfr : 4 ≤ R.frames) (hlo : W + 65 ≤ R.locals) :
    Back l R p e below s sargs yN len W (fun A₁ a₁ => A₁.cells + 1 ≤ R.cells ∧ A₁.slots + A.slots.size ≤ R.slots ∧ P a D fV fC b A z a₁ A₁.U) (fun A₁ _ v₁ B₁ => E a D fV fC A v₁ A₁.U B₁.U ∧ B₁.locs = A₁.locs ++ [⟨a, fC.slot⟩, ⟨a, fV.slot⟩] ∧ B₁.cells = A₁.cells + 1 ∧ B₁.slots = A₁.slots + A.slots.size) :=
  (law l a D fV fC b A z).pays htab hfr (by omega)
end New1
end StrChars
namespace StrChars.Road
open Jvm Sem ClassFile Op Lib Jvm.Stand Jvm.Free Jvm.Free.XT
open Jvm.Lib.Cold (StaticIs)
abbrev ST : String := "java/lang/String"
/-- every table word that New1's law asks, flat -/
abbrev words : List Jvm.Cond := [.code New1.yN New1.yB 2 none, .initialized ST, .methodLink ST 27 New4.yN, .instanceMethod New4.yN,
  .code New4.yN New4.yB 6 none, .fieldLink ST 38 ST "COMPACT_STRINGS" "Z", .laysFinal ST ST "value" "[B", .fieldLink ST 9 ST "value" "[B", .laysFinal ST ST "coder" "B", .fieldLink ST 15 ST "coder" "B",
  .methodLink ST 1 Lib.objectInit, .instanceMethod Lib.objectInit, .code Lib.objectInit ⟨#[0xb1]⟩ 1 none, .methodLink ST 177 Cmp3.yN, .static Cmp3.yN, .methodLink ST 47 CodL.yN, .static CodL.yN,
  .code Cmp3.yN Cmp3.yB 6 (some (.array .byte)), .initialized U16, .arrayClass .byte, .methodLink U16 115 Cmp5.yN, .static Cmp5.yN, .code Cmp5.yN Cmp5.yB 7 (some .int), .code CodL.yN CodL.yB 2 (some .byte)]
theorem tab_of {a : Array Value} {s : State} (h : ∀ w ∈ words, w.before a s = true) : New1.tab.before a s = true := by
  have h5 : Cmp5.tab.before a s = true := unparts (wk h (.code Cmp5.yN Cmp5.yB 7 (some .int))) (wks h (.initialized Cmp5.yN.cls :: Cmp5.site))
  have hc : CodL.tab.before a s = true := unparts (wk h (.code CodL.yN CodL.yB 2 (some .byte))) (wks h (.initialized CodL.yN.cls :: CodL.site))
  have q5 : ∀ w ∈ Cmp5.tab :: words, w.before a s = true := fun w hw => (List.mem_cons.mp hw).elim (fun e => e ▸ h5) (h w)
  have h3 : Cmp3.tab.before a s = true := unparts (wk q5 (.code Cmp3.yN Cmp3.yB 6 (some (.array .byte)))) (wks q5 (.initialized Cmp3.yN.cls :: Cmp3.site))
  have q3 : ∀ w ∈ Cmp3.tab :: CodL.tab :: words, w.before a s = true := fun w hw => (List.mem_cons.mp hw).elim (fun e => e ▸ h3) fun hw => (List.mem_cons.mp hw).elim (fun e => e ▸ hc) (h w)
  have h4 : New4.tab.before a s = true := unparts (wk q3 (.code New4.yN New4.yB 6 none)) (wks q3 (.initialized New4.yN.cls :: New4.site))
  have q4 : ∀ w ∈ New4.tab :: words, w.before a s = true := fun w hw => (List.mem_cons.mp hw).elim (fun e => e ▸ h4) (h w)
  exact unparts (wk q4 (.code New1.yN New1.yB 2 none)) (wks q4 (.initialized New1.yN.cls :: New1.site))
/-- the words ride from the start Z to the walk's own state -/
theorem moved {Z s : State} {a0 args : Array Value} (hZ : Z.Warmed39 s.vm) (hw : ∀ d ∈ words, d.before a0 Z = true) : ∀ d ∈ words, d.before args s = true := fun d hd => by
  have q := hw d hd
  have t : ∀ d ∈ words, d = .arrayClass .byte ∨ (d.onTables && d.keepsFace) = true := by decide +kernel
  rcases t d hd with rfl | t
  · exact RoadKit.mvA hZ q
  · exact RoadKit.mv hZ q t
/-- WHAT COMES BACK, over the tables of the start Z: h the heap at the call, h' behind it -/
def Q (Z : State) (x : Addr) (A : Cell) (h : Heap) (v : Option Value) (h' : Heap) (L : List Loc) : Prop := v = none ∧ (∀ y ∈ L, y.base = x) ∧ RoadKit.Keep h h' [x] ∧ h'.size = h.size + 1 ∧ RoadKit.Exa Z h' x ST ∧ RoadKit.Fld Z h' x ST "value" "[B" (.ref h.size) ∧ RoadKit.Fld Z h' x ST "coder" "B" (.int 0) ∧
  (∃ V : Cell, RoadKit.Arr Z h' h.size V .byte ∧ V.vm = .none ∧ Z.vm.findClass "[B" = some V.cls ∧ V.slots.size = A.slots.size ∧ ∀ j, j < A.slots.size → V.slots[j]? = some (.int (lo8 (cv A j)))) ∧
  ∀ (O n d : String) (w : Value), RoadKit.Fld Z h x O n d w → RoadKit.slotOf Z O n d ≠ RoadKit.slotOf Z ST "value" "[B" → RoadKit.slotOf Z O n d ≠ RoadKit.slotOf Z ST "coder" "B" → RoadKit.Fld Z h' x O n d w
/-- **new String(chars) AT A CALL, IN THE ROAD'S FORM**: for specialBack behind newO: x the fresh String, b the char[] with the cell A -/
theorem back {p : Program} {l : Launch} {e : Env} {R : Room} {s : State} {args : Array Value} {below : List Frame} {len W : Nat} {Z : State} {a0 : Array Value} {h : Heap} (hZ : Z.Warmed39 s.vm) (hw : ∀ d ∈ words, d.before a0 Z = true) {kI : Nat} (wi : (Jvm.Cond.instantiable ST kI).before a0 Z = true)
    {x b : Addr} {A : Cell} {z : Int32} {v0 c0 : Value} (E : RoadKit.Exa Z h x ST) (V : RoadKit.Fld Z h x ST "value" "[B" v0) (C : RoadKit.Fld Z h x ST "coder" "B" c0) (K : RoadKit.Arr Z h b A .char) (hty : Typed .char A) (S : RoadKit.Sta Z h ST "COMPACT_STRINGS" "Z" (.int z)) (hz : ¬ z = 0)
    (l0 : 0 < A.slots.size) (l2 : A.slots.size ≤ 536870912) (hp : ∀ i, i < A.slots.size → ¬ 255 < cv A i) (hfr : 4 ≤ R.frames) (hlo : W + 65 ≤ R.locals) :
    Back l R p e below s args New1.yN len W (fun P a => a = #[.ref x, .ref b] ∧ P.U.heap = h ∧ P.cells + 1 ≤ R.cells ∧ P.slots + A.slots.size ≤ R.slots)
      (fun P _ v B => ∃ L, Q Z x A h v B.U.heap L ∧ B.locs = P.locs ++ L ∧ B.cells = P.cells + 1 ∧ B.slots = P.slots + A.slots.size) := by
  intro m meth c P g ig mk a X hg hsize hdg hW hn hp'
  obtain ⟨rfl, rfl, r1, r2⟩ := hp'
  have al : Z.vm.Alike P.U.vm := hZ.alike.trans X.warmed.alike
  obtain ⟨D, cfV, kV, iV, fV, hD, gV, stV, knV, obV, asV, slV⟩ := id V
  obtain ⟨D', cfC, kC, iC, fC, hD', gC, stC, -, -, asC, slC⟩ := id C
  cases hD.symm.trans hD'
  obtain ⟨D2, kD, e1, e2, e3, e4, e5⟩ := id E
  cases hD.symm.trans e1
  obtain ⟨c2, k2, i1, i2, i3, -⟩ := Cond.instantiable_spec wi
  cases e2.symm.trans i1
  cases e3.symm.trans i2
  obtain ⟨kU, u1, u2⟩ := al.2.2 _ _ e3
  have hB : Blank ST x D P.U := ⟨hD, ⟨knV, fun q hq => by rw [hq] at obV; cases obV⟩, by rw [al.findClass]; exact e2, kU, u1, by rw [u2]; exact i3, by rw [u2]; exact e5 i3⟩
  have F1 : Found ST "value" "[B" fV P.U := ⟨SBG.found_only al ⟨cfV, kV, iV, gV⟩, stV⟩
  have F2 : Found ST "coder" "B" fC P.U := ⟨SBG.found_only al ⟨cfC, kC, iC, gC⟩, stC⟩
  have hA : Ch b A P.U := ⟨⟨K.1, State.isArrayOf_alike al K.2.1, K.2.2, by omega⟩, hty⟩
  have hS : StaticIs P.U ST "COMPACT_STRINGS" "Z" (.int z) := by
    obtain ⟨cfS, iS, kS, fS, st, cS, t1, t2, t3, t4, t5, t6, t7⟩ := S
    exact StaticIs.there (s := { Z with heap := P.U.heap }) ⟨cfS, iS, kS, fS, st, cS, t1, t2, t3, t4, t5, (fun q => by rw [q] at t6; cases t6), t7⟩ al rfl
  obtain ⟨v, B, X', ⟨⟨hv, E', V', q1, q2, q3, q4, q5, q6, q7, q8, q9, q10, q11⟩, hl, hc, hs⟩, st⟩ := New1.pays x D fV fC b A z (tab_of (moved hZ hw)) hfr hlo m meth c P g ig mk _ X hg hsize hdg hW hn ⟨r1, r2, rfl, hB, F1, F2, hA, hS, hz, l0, l2, hp⟩
  have al' : Z.vm.Alike B.U.vm := hZ.alike.trans X'.warmed.alike
  have hsz : E'.slots.size = D.slots.size := by
    obtain ⟨-, -, -, kB, w1, w2, w3⟩ := q1
    obtain ⟨kB', y1, y2⟩ := al'.2.2 _ _ e3
    rw [q2.2.1] at w1
    cases w1.symm.trans y1
    rw [w3, e5 i3, y2]
  refine ⟨v, B, X', ⟨_, ⟨hv, ?_, ⟨by omega, fun y cy hy hn' => q10 y cy (by simpa using hn') hy, fun y cy hy => ?_⟩, q11, ⟨E', _, q1.1, by rw [q2.2.1]; exact e2, by rw [q2.2.1]; exact e3, by rw [q2.1]; exact obV, fun _ => by rw [hsz]; exact e5 i3⟩,
    ⟨E', cfV, kV, iV, fV, q1.1, gV, stV, by rw [q2.1]; exact knV, by rw [q2.1]; exact obV, by rw [q2.2.1]; exact asV, q3⟩, ⟨E', cfC, kC, iC, fC, q1.1, gC, stC, by rw [q2.1]; exact knV, by rw [q2.1]; exact obV, by rw [q2.2.1]; exact asC, q4⟩,
    ⟨V', ⟨q5.1, State.isArrayOf_alike al'.symm q5.2.1, q5.2.2.1⟩, q6, by rw [← al'.findClass]; exact q7, q8, fun j hj => by have := q9 j hj; rwa [Nat.zero_add] at this⟩, fun O n d w F n1 n2 => ?_⟩, hl, hc, hs⟩, st⟩
  · intro y hy
    simp only [List.mem_cons, List.not_mem_nil, or_false] at hy
    rcases hy with rfl | rfl <;> rfl
  · by_cases q : y = x
    · subst q
      cases hD.symm.trans hy
      exact ⟨E', q1.1, q2.2.1, q2.1, hsz⟩
    · exact ⟨cy, q10 y cy q hy, rfl, rfl, rfl⟩
  · obtain ⟨D3, cf, k, i, f, g1, g2, g3, g4, g5, g6, g7⟩ := F
    cases hD.symm.trans g1
    simp only [RoadKit.slotOf, g2, gV, gC, Option.map_some, Option.getD_some] at n1 n2
    exact ⟨E', cf, k, i, f, q1.1, g2, g3, by rw [q2.1]; exact g4, by rw [q2.1]; exact g5, by rw [q2.2.1]; exact g6, by rw [q2.2.2 f.slot (by simp [n1, n2])]; exact g7⟩
end StrChars.Road
namespace StrChars.Road
open Jvm Sem ClassFile Op Lib Jvm.Stand Jvm.Free Jvm.Free.XT
/-- WHAT COMES BACK, the byte[] as a list of values -/
def QA (Z : State) (x : Addr) (zn : Int32) (cs : List Int32) (h : Heap) (v : Option Value) (h' : Heap) (L : List Loc) : Prop := v = none ∧ (∀ y ∈ L, y.base = x) ∧ RoadKit.Keep h h' [x] ∧ h'.size = h.size + 1 ∧ RoadKit.Exa Z h' x ST ∧ RoadKit.Fld Z h' x ST "value" "[B" (.ref h.size) ∧ RoadKit.Fld Z h' x ST "coder" "B" (.int 0) ∧
  (∃ kb, Z.vm.findClass "[B" = some kb ∧ RoadKit.Arv Z h' h.size kb .byte zn (cs.map fun c => .int (lo8 c)) (.int 0)) ∧
  ∀ (O n d : String) (w : Value), RoadKit.Fld Z h x O n d w → RoadKit.slotOf Z O n d ≠ RoadKit.slotOf Z ST "value" "[B" → RoadKit.slotOf Z O n d ≠ RoadKit.slotOf Z ST "coder" "B" → RoadKit.Fld Z h' x O n d w
/-- **new String(chars) AT A CALL, THE ARRAYS AS LISTS**: the char[] at b holds cs, not empty, no char above 255 -/
theorem backArv {p : Program} {l : Launch} {e : Env} {R : Room} {s : State} {args : Array Value} {below : List Frame} {len W : Nat} {Z : State} {a0 : Array Value} {h : Heap} (hZ : Z.Warmed39 s.vm) (hw : ∀ d ∈ words, d.before a0 Z = true) {kI : Nat} (wi : (Jvm.Cond.instantiable ST kI).before a0 Z = true)
    {x b : Addr} {k : ClassId} {zn z : Int32} {cs : List Int32} {dv v0 c0 : Value} (E : RoadKit.Exa Z h x ST) (V : RoadKit.Fld Z h x ST "value" "[B" v0) (C : RoadKit.Fld Z h x ST "coder" "B" c0) (K : RoadKit.Arv Z h b k .char zn (cs.map Value.int) dv) (S : RoadKit.Sta Z h ST "COMPACT_STRINGS" "Z" (.int z)) (hz : ¬ z = 0)
    (hlen : zn.toNatClampNeg = cs.length) (h0 : 0 < cs.length) (hbig : cs.length ≤ 536870912) (hall : ∀ c ∈ cs, ¬ 255 < c) (hfr : 4 ≤ R.frames) (hlo : W + 65 ≤ R.locals) :
    Back l R p e below s args New1.yN len W (fun P a => a = #[.ref x, .ref b] ∧ P.U.heap = h ∧ P.cells + 1 ≤ R.cells ∧ P.slots + cs.length ≤ R.slots)
      (fun P _ v B => ∃ L, QA Z x zn cs h v B.U.heap L ∧ B.locs = P.locs ++ L ∧ B.cells = P.cells + 1 ∧ B.slots = P.slots + cs.length) := by
  obtain ⟨A, K1, K2, K3, K4, K5, K6⟩ := K
  have e : A.slots.size = cs.length := K3.trans hlen
  have hat : ∀ (i : Nat) (hi : i < cs.length), A.slots[i]? = some (.int cs[i]) := fun i hi => by rw [K5 i (by omega)]; simp [List.getD_eq_getElem?_getD, hi]
  have hcv : ∀ (i : Nat) (hi : i < cs.length), cv A i = cs[i] := fun i hi => by unfold cv; rw [hat i hi]
  have hty : Typed .char A := fun i v hv => by
    have hi : i < A.slots.size := (Array.getElem?_eq_some_iff.mp hv).1
    have q := K5 i hi
    rw [hv] at q
    rw [Option.some.inj q]
    exact K6 i hi
  refine Back.mono (back hZ hw wi E V C K1 hty S hz (by omega) (by omega) (fun i hi => by rw [hcv i (by omega)]; exact hall _ (List.getElem_mem _)) hfr hlo) (fun P a hp => ⟨hp.1, hp.2.1, hp.2.2.1, by rw [e]; exact hp.2.2.2⟩) (fun P a v B hp hq => ?_)
  obtain ⟨L, ⟨q1, q2, q3, q4, q5, q6, q7, ⟨V', v1, v2, v3, v4, v5⟩, q9⟩, hl, hc, hs⟩ := hq
  refine ⟨L, ⟨q1, q2, q3, q4, q5, q6, q7, ⟨V'.cls, v3, V', v1, rfl, by rw [v4, e, hlen], K4, fun i hi => ?_, fun i hi => ?_⟩, q9⟩, hl, hc, by rw [hs, e]⟩
  · have hi' : i < cs.length := by omega
    rw [v5 i (by omega), hcv i hi']; simp [List.getD_eq_getElem?_getD, hi']
  · have hi' : i < cs.length := by omega
    simp only [List.getD_eq_getElem?_getD, List.getElem?_map, List.getElem?_eq_getElem hi', Option.map_some, Option.getD_some]
    exact fits_lo8 _
end StrChars.Road
namespace StrChars.Road
open Jvm Sem ClassFile Op Lib Jvm.Stand Jvm.Free Jvm.Free.XT
/-- WHAT COMES BACK, in the writer's own shape -/
def QV (Z : State) (x : Addr) (N : Int32) (bs : List Int32) (h : Heap) (n0 : Nat) (v : Option Value) (h' : Heap) (L : List Loc) : Prop := v = none ∧ RoadKit.Fr n0 L ∧ RoadKit.Keep h h' [x] ∧ RoadKit.Exa Z h' x ST ∧ RoadKit.Fld Z h' x ST "coder" "B" (.int 0) ∧
  ∃ (t : Addr) (kb : ClassId), n0 ≤ t ∧ h.size ≤ t ∧ ¬ t = x ∧ RoadKit.Fld Z h' x ST "value" "[B" (.ref t) ∧ RoadKit.Arv Z h' t kb .byte N (bs.map Value.int) (.int 0)
/-- **new String(chars) AT A CALL, FOR THE WRITER**: a char[] of n known ints, each 0 to 255 -/
theorem backV {p : Program} {l : Launch} {e : Env} {R : Room} {s : State} {args : Array Value} {below : List Frame} {len W : Nat} {Z : State} {a0 : Array Value} {h : Heap} (hZ : Z.Warmed39 s.vm) (hw : ∀ d ∈ words, d.before a0 Z = true) {kI : Nat} (wi : (Jvm.Cond.instantiable ST kI).before a0 Z = true)
    {x b : Addr} {kC : ClassId} {cs bs : List Int32} {d v0 c0 : Value} {z N : Int32} {n n0 : Nat} (hx0 : n0 ≤ x) (hh0 : n0 ≤ h.size) (E : RoadKit.Exa Z h x ST) (V : RoadKit.Fld Z h x ST "value" "[B" v0) (C : RoadKit.Fld Z h x ST "coder" "B" c0) (K : RoadKit.Arv Z h b kC .char N (cs.map Value.int) d) (S : RoadKit.Sta Z h ST "COMPACT_STRINGS" "Z" (.int z)) (hz : ¬ z = 0)
    (hn : cs.length = n) (hN : N = Int32.ofNat n) (l0 : 0 < n) (l2 : n ≤ 4000) (hp : ∀ c ∈ cs, ¬ c < 0 ∧ ¬ (255 : Int32) < c) (hb : bs = cs.map (fun c => c.toInt8.toInt32)) (hfr : 4 ≤ R.frames) (hlo : W + 65 ≤ R.locals) :
    Back l R p e below s args (⟨"java/lang/String", "<init>", "([C)V"⟩ : MethodName) len W (fun P a => a = #[.ref x, .ref b] ∧ P.U.heap = h ∧ P.cells + 1 ≤ R.cells ∧ P.slots + n ≤ R.slots)
      (fun P _ v B => ∃ L, QV Z x N bs h n0 v B.U.heap L ∧ B.locs = P.locs ++ L ∧ B.cells = P.cells + 1 ∧ B.slots = P.slots + n) := by
  subst hn hN hb
  refine Back.mono (backArv hZ hw wi E V C K S hz (n32 (by omega)) l0 (by omega) (fun c hc => (hp c hc).2) hfr hlo) (fun P a hp => hp) (fun P a v B hp hq => ?_)
  obtain ⟨L, ⟨q1, q2, q3, q4, q5, q6, q7, ⟨kb, v1, v2⟩, q9⟩, hl, hc, hs⟩ := hq
  exact ⟨L, ⟨q1, fun y hy => by rw [q2 y hy]; exact hx0, q3, q5, q7, h.size, kb, hh0, Nat.le_refl _, Nat.ne_of_gt E.lt, q6, by rw [List.map_map]; exact v2⟩, hl, hc, hs⟩
end StrChars.Road
namespace StrChars
open Jvm Sem ClassFile Op Lib Jvm.Stand Jvm.Free.XT Jvm.Free.ALB Jvm.Free.JM Jvm.Free
open Jvm.Lib.Cold (StaticIs)
def hi8 (x : Int32) : Int32 := lo8 (x >>> ((8 : Int32) &&& 31))
theorem shr0 (c : Int32) : c >>> ((0 : Int32) &&& 31) = c := by
  have e : ((0 : Int32) &&& 31) = 0 := by decide
  rw [e]
  apply Int32.toBitVec_inj.mp
  rw [Int32.toBitVec_shiftRight]
  have e1 : ((0 : Int32).toBitVec.smod 32) = 0#32 := by decide
  rw [e1, BitVec.sshiftRight_eq']
  exact BitVec.sshiftRight_zero
end StrChars
namespace StrChars
open Jvm Sem ClassFile Op Lib Jvm.Stand Jvm.Free.XT Jvm.Free.ALB Jvm.Free.JM Jvm.Free
open Jvm.Lib.Cold (StaticIs)
theorem shr1 {n : Nat} (h : 2 * n < 2 ^ 31) : Int32.ofNat (2 * n) >>> ((1 : Int32) &&& 31) = Int32.ofNat n := by
  have e : ((1 : Int32) &&& 31) = 1 := by decide
  rw [e]
  apply Int32.toBitVec_inj.mp
  rw [Int32.toBitVec_shiftRight]
  have e1 : ((1 : Int32).toBitVec.smod 32) = 1#32 := by decide
  have hm : (BitVec.ofNat 32 (2 * n)).toNat = 2 * n := by rw [BitVec.toNat_ofNat, Nat.mod_eq_of_lt (by omega)]
  rw [e1, BitVec.sshiftRight_eq']
  apply BitVec.eq_of_toNat_eq
  show ((BitVec.ofNat 32 (2 * n)).sshiftRight 1).toNat = (BitVec.ofNat 32 n).toNat
  rw [BitVec.toNat_sshiftRight_of_msb_false (by rw [BitVec.msb_eq_false_iff_two_mul_lt, hm]; omega), hm, BitVec.toNat_ofNat, Nat.shiftRight_eq_div_pow]
  omega
/-- the array's cell V codes the n chars f 0 .. f (n - 1) by the coder cd, as the JDK does: coder 1 just where some char is above 255 -/
def Cod (cd : Int32) (n : Nat) (f : Nat → Int32) (V : Cell) : Prop := (cd = 0 ∧ V.slots.size = n ∧ ∀ j, j < n → V.slots[j]? = some (.int (lo8 (f j))) ∧ ¬ 255 < f j) ∨ (cd = 1 ∧ V.slots.size = 2 * n ∧ (∀ j, j < n → V.slots[2 * j]? = some (.int (lo8 (f j))) ∧ V.slots[2 * j + 1]? = some (.int (hi8 (f j)))) ∧ ∃ j, j < n ∧ 255 < f j)
theorem Cod.cd {cd : Int32} {n : Nat} {f : Nat → Int32} {V : Cell} (h : Cod cd n f V) : cd = 0 ∨ cd = 1 := h.imp (fun q => q.1) fun q => q.1
theorem Cod.len {cd : Int32} {n : Nat} {f : Nat → Int32} {V : Cell} (h : Cod cd n f V) (hs : V.slots.size < 2 ^ 31) : Int32.ofNat V.slots.size >>> (cd &&& 31) = Int32.ofNat n := by
  rcases h with ⟨rfl, h, -⟩ | ⟨rfl, h, -⟩
  · rw [shr0, h]
  · rw [h, shr1 (by omega)]
/-- **x is a String of the n chars f 0 .. f (n - 1)**, Latin-1 or UTF-16; its array at t has the cell V -/
def Txt (x t : Addr) (V : Cell) (cd : Int32) (n : Nat) (f : Nat → Int32) (U : State) : Prop := Exact "java/lang/String" x U ∧ Has x "java/lang/String" "value" "[B" (.ref t) U ∧ Has x "java/lang/String" "coder" "B" (.int cd) U ∧ XT.Arr .byte t V U ∧ Cod cd n f V ∧ ∀ j, j < n → ¬ f j < 0 ∧ ¬ 65535 < f j
theorem Txt.mv {x t : Addr} {V : Cell} {cd : Int32} {n : Nat} {f : Nat → Int32} {U U' : State} (h : Txt x t V cd n f U) (hal : U.vm.Alike U'.vm) (hh : U'.heap = U.heap) : Txt x t V cd n f U' := ⟨h.1.mv hal hh, h.2.1.mv hal hh, h.2.2.1.mv hal hh, h.2.2.2.1.mv hal hh, h.2.2.2.2⟩
namespace Cdr
def yN : MethodName := ⟨"java/lang/String", "coder", "()B"⟩
abbrev yB : ByteArray := jdk_42_method_152_code
theorem d0 : decode yB 0 = .ok (.getstatic 38, 3) := by decide +kernel
theorem d3 : decode yB 3 = .ok (.ifCond (.eq) 10, 3) := by decide +kernel
theorem d6 : decode yB 6 = .ok (.aload_n 0, 1) := by decide +kernel
theorem d7 : decode yB 7 = .ok (.getfield 15, 3) := by decide +kernel
theorem d10 : decode yB 10 = .ok (.goto 4, 3) := by decide +kernel
theorem d14 : decode yB 14 = .ok (.ireturn, 1) := by decide +kernel
def site : List Cond := [.fieldLink "java/lang/String" 38 "java/lang/String" "COMPACT_STRINGS" "Z", .fieldLink "java/lang/String" 15 "java/lang/String" "coder" "B"]
def tab : Cond := tabOf yN yB 1 (some .byte) site
def P (x : Addr) (cd z : Int32) (args : Array Value) (s : State) : Prop := args = #[.ref x] ∧ Has x "java/lang/String" "coder" "B" (.int cd) s ∧ (cd = 0 ∨ cd = 1) ∧ StaticIs s "java/lang/String" "COMPACT_STRINGS" "Z" (.int z) ∧ ¬ z = 0
def E (cd : Int32) (r : Option Value) (s u : State) : Prop := XT.PureE (some (.int cd)) r s u
theorem law (l : Launch) (x : Addr) (cd z : Int32) : Law l yN 1 0 0 0 yB 1 (some .byte) site (P x cd z) (E cd) [] 0 0 := by
  refine Law.of_walk (plainFor_of_name (by decide +kernel)) (by decide +kernel) (by decide +kernel) (by decide) (fun _ _ h => by rw [h.1]; rfl) (fun _ U U' hal hh h => ⟨h.1, h.2.1.mv hal hh, h.2.2.1, h.2.2.2.1.there hal hh, h.2.2.2.2⟩) (fun r U U' V V' h1 hal h2 h => XT.PureE.mv r U U' V V' h1 hal h2 h) ?_
  intro p e s m args below meth c s₁ X0 hexec hbytes hml hret hlk hnm hown hh0 W hP
  obtain ⟨rfl, hx, hc, s1, hz⟩ := hP
  have c1 : Steps p.tables e below (s₁.setTop (entryFrame m #[.ref x] 1)) (s₁.setTop (mkF m 0 #[.val (.ref x)] [])) := entry rfl
  obtain ⟨T2, X2, q2, st2⟩ := X0.sget hexec hown (wk W (.fieldLink "java/lang/String" 38 "java/lang/String" "COMPACT_STRINGS" "Z")) s1 (fun _ _ h => by rw [hh0]; exact h) (g := (mkF m 0 #[.val (.ref x)] [])) rfl (hb hbytes d0)
  have hh2 := q2.trans hh0
  have c3 : Steps p.tables e below (s₁.setTop (entryFrame m #[.ref x] 1)) (T2.setTop (mkF m 7 #[.val (.ref x)] [.ref x])) := (c1.trans (st2 _ (Steps.refl _))).trans (by
    refine XS.ifNo X2.here hexec rfl (hb hbytes d3) rfl (i0_eq_f hz) ?_
    refine XS.aloadN X2.here hexec rfl (hb hbytes d6) rfl rfl ?_
    exact Steps.refl _)
  obtain ⟨T4, X4, q4, st4⟩ := X2.hget hexec hown (wk W (.fieldLink "java/lang/String" 15 "java/lang/String" "coder" "B")) (hx.mv X2.warmed.alike hh2) (g := (mkF m 7 #[.val (.ref x)] [.ref x])) rfl (rest := []) rfl (hb hbytes d7)
  have c5 : Steps p.tables e below (s₁.setTop (entryFrame m #[.ref x] 1)) (T4.setTop (mkF m 14 #[.val (.ref x)] [.int cd])) := (c3.trans (st4 _ (Steps.refl _))).trans (by
    refine XS.goto X4.here hexec rfl (pc0 := 10) rfl (hb hbytes d10) (by decide) rfl ?_
    exact Steps.refl _)
  exact ⟨T4, some (.int cd), _, _, _, X4, rfl, rfl, rfl, (fun h => by cases h), ⟨rfl, q4.trans hh2⟩, fun fs hl => c5.trans (X4.ireturnOut hexec hret (by rcases hc with rfl | rfl <;> rfl) (Or.inr (Or.inr (Or.inl rfl))) (hb hbytes d14) hl)⟩
end Cdr
namespace Len
def yN : MethodName := ⟨"java/lang/String", "length", "()I"⟩
abbrev yB : ByteArray := jdk_42_method_54_code
theorem d0 : decode yB 0 = .ok (.aload_n 0, 1) := by decide +kernel
theorem d1 : decode yB 1 = .ok (.getfield 9, 3) := by decide +kernel
theorem d4 : decode yB 4 = .ok (.arraylength, 1) := by decide +kernel
theorem d5 : decode yB 5 = .ok (.aload_n 0, 1) := by decide +kernel
theorem d6 : decode yB 6 = .ok (.invokevirtual 335, 3) := by decide +kernel
theorem d9 : decode yB 9 = .ok (.ishr, 1) := by decide +kernel
theorem d10 : decode yB 10 = .ok (.ireturn, 1) := by decide +kernel
def site : List Cond := [.fieldLink "java/lang/String" 9 "java/lang/String" "value" "[B", Cdr.tab] ++ virtW "java/lang/String" 335 "java/lang/String" Cdr.yN Cdr.yN
def tab : Cond := tabOf yN yB 1 (some .int) site
def P (x t : Addr) (V : Cell) (cd : Int32) (n : Nat) (f : Nat → Int32) (z : Int32) (args : Array Value) (s : State) : Prop := args = #[.ref x] ∧ Txt x t V cd n f s ∧ StaticIs s "java/lang/String" "COMPACT_STRINGS" "Z" (.int z) ∧ ¬ z = 0
def E (n : Nat) (r : Option Value) (s u : State) : Prop := XT.PureE (some (.int (Int32.ofNat n))) r s u
/-- length() of a String of n chars, in either coding -/
theorem law (l : Launch) (x t : Addr) (V : Cell) (cd : Int32) (n : Nat) (f : Nat → Int32) (z : Int32) : Law l yN 1 0 1 13 yB 1 (some .int) site (P x t V cd n f z) (E n) [] 0 0 := by
  refine Law.of_walk (plainFor_of_name (by decide +kernel)) (by decide +kernel) (by decide +kernel) (by decide) (fun _ _ h => by rw [h.1]; rfl) (fun _ U U' hal hh h => ⟨h.1, h.2.1.mv hal hh, h.2.2.1.there hal hh, h.2.2.2⟩) (fun r U U' V V' h1 hal h2 h => XT.PureE.mv r U U' V V' h1 hal h2 h) ?_
  intro p e s m args below meth c s₁ X0 hexec hbytes hml hret hlk hnm hown hh0 W hP
  obtain ⟨rfl, hx, s1, hz⟩ := hP
  have v31 := hx.2.2.2.1.2.2.2
  have c1 : Steps p.tables e below (s₁.setTop (entryFrame m #[.ref x] 1)) (s₁.setTop (mkF m 1 #[.val (.ref x)] [.ref x])) := Steps.trans (entry rfl) (by
    show Steps p.tables e below (s₁.setTop (mkF m 0 #[.val (.ref x)] [])) _
    refine XS.aloadN X0.here hexec rfl (hb hbytes d0) rfl rfl ?_
    exact Steps.refl _)
  obtain ⟨T2, X2, q2, st2⟩ := X0.hget hexec hown (wk W (.fieldLink "java/lang/String" 9 "java/lang/String" "value" "[B")) (hx.mv X0.warmed.alike hh0).2.1 (g := (mkF m 1 #[.val (.ref x)] [.ref x])) rfl (rest := []) rfl (hb hbytes d1)
  have hh2 := q2.trans hh0
  have hx2 := hx.mv X2.warmed.alike hh2
  have c3 : Steps p.tables e below (s₁.setTop (entryFrame m #[.ref x] 1)) (T2.setTop (mkF m 6 #[.val (.ref x)] [.ref x, .int (Int32.ofNat V.slots.size)])) := (c1.trans (st2 _ (Steps.refl _))).trans (by
    refine X2.alen hexec hx2.2.2.2.1 rfl rfl (hb hbytes d4) ?_
    refine XS.aloadN X2.here hexec rfl (hb hbytes d5) rfl rfl ?_
    exact Steps.refl _)
  obtain ⟨v4, T4, X4, E4, g4⟩ := X2.callV hexec (Cdr.law l x cd z) hown (wks W (virtW "java/lang/String" 335 "java/lang/String" Cdr.yN Cdr.yN)) rfl (by decide) (wk W Cdr.tab) (W := 1) (Nat.le_of_ble_eq_true rfl) (Nat.le_of_ble_eq_true rfl) (Nat.le_refl _) (Nat.le_refl _) (hx2.1.fc X2.warmed.alike) hx2.1.is (g := (mkF m 6 #[.val (.ref x)] [.ref x, .int (Int32.ofNat V.slots.size)])) rfl (by rw [hml]; rfl) c3 (argsL := []) (rest := [.int (Int32.ofNat V.slots.size)]) rfl rfl (by show 2 * 0 + (1 + 0) ≤ _; decide) (hb hbytes d6) (⟨rfl, hx2.2.2.1, hx.2.2.2.2.1.cd, s1.there X2.warmed.alike hh2, hz⟩)
  obtain ⟨rfl, q4⟩ := E4
  have c5 : Steps p.tables e below (s₁.setTop (entryFrame m #[.ref x] 1)) (T4.setTop (mkF m 10 #[.val (.ref x)] [.int (Int32.ofNat V.slots.size >>> (cd &&& 31))])) := Steps.trans g4 (by
    refine ishr X4.here hexec rfl (hb hbytes d9) rfl ?_
    exact Steps.refl _)
  rw [hx.2.2.2.2.1.len v31] at c5
  exact ⟨T4, some (.int (Int32.ofNat n)), _, _, _, X4, rfl, rfl, rfl, (fun h => by cases h), ⟨rfl, q4.trans hh2⟩, fun fs hl => c5.trans (X4.ireturnOut hexec hret rfl (Or.inl rfl) (hb hbytes d10) hl)⟩
theorem pays {l : Launch} {R : Room} {p : Program} {e : Env} {below : List Frame} {s : State} {sargs : Array Value} {len W : Nat} (x t : Addr) (V : Cell) (cd : Int32) (n : Nat) (f : Nat → Int32) (z : Int32) (htab : tab.before sargs s = true) (hfr : 2 ≤ R.frames) (hlo : W + 25 ≤ R.locals) :
    Back l R p e below s sargs yN len W (fun A₁ a₁ => A₁.cells + 0 ≤ R.cells ∧ A₁.slots + 0 ≤ R.slots ∧ P x t V cd n f z a₁ A₁.U) (fun A₁ _ v₁ B₁ => E n v₁ A₁.U B₁.U ∧ B₁.locs = A₁.locs ++ [] ∧ B₁.cells = A₁.cells + 0 ∧ B₁.slots = A₁.slots + 0) :=
  (law l x t V cd n f z).pays htab hfr (by omega)
end Len
end StrChars
namespace StrChars.Road
open Jvm Sem ClassFile Op Lib Jvm.Stand Jvm.Free Jvm.Free.XT
open Jvm.Lib.Cold (StaticIs)
theorem consq {a : Array Value} {s : State} {c : Jvm.Cond} {L : List Jvm.Cond} (h0 : c.before a s = true) (h : ∀ w ∈ L, w.before a s = true) : ∀ w ∈ c :: L, w.before a s = true := fun w hw => (List.mem_cons.mp hw).elim (fun e => e ▸ h0) (h w)
/-- the words of String.length(), either coding -/
abbrev wordsLen : List Jvm.Cond := [.code Len.yN Len.yB 1 (some .int), .initialized ST, .fieldLink ST 9 ST "value" "[B", .fieldLink ST 38 ST "COMPACT_STRINGS" "Z", .fieldLink ST 15 ST "coder" "B", .code Cdr.yN Cdr.yB 1 (some .byte), .methodLink ST 335 Cdr.yN, .declares Cdr.yN, .selects ST Cdr.yN Cdr.yN, .instanceMethod Cdr.yN]
theorem tabLen_of {a : Array Value} {s : State} (h : ∀ w ∈ wordsLen, w.before a s = true) : Len.tab.before a s = true := by
  have hc : Cdr.tab.before a s = true := unparts (wk h (.code Cdr.yN Cdr.yB 1 (some .byte))) (wks h (.initialized Cdr.yN.cls :: Cdr.site))
  have q := consq hc h
  exact unparts (wk q (.code Len.yN Len.yB 1 (some .int))) (wks q (.initialized Len.yN.cls :: Len.site))
theorem movedLen {Z s : State} {a0 args : Array Value} (hZ : Z.Warmed39 s.vm) (hw : ∀ d ∈ wordsLen, d.before a0 Z = true) : ∀ d ∈ wordsLen, d.before args s = true := fun d hd => by
  have q := hw d hd
  have t : ∀ d ∈ wordsLen, d = .arrayClass .byte ∨ (d.onTables && d.keepsFace) = true := by decide +kernel
  rcases t d hd with rfl | t
  · exact RoadKit.mvA hZ q
  · exact RoadKit.mv hZ q t
/-- the bytes of the chars cs, low before high -/
def wideBytes : List Int32 → List Value
  | [] => []
  | c :: cs => .int (lo8 c) :: .int (hi8 c) :: wideBytes cs
theorem wide_lo (d : Value) : ∀ (cs : List Int32) (j : Nat), j < cs.length → (wideBytes cs).getD (2 * j) d = .int (lo8 (cs.getD j 0))
  | [], j, h => absurd h (Nat.not_lt_zero j)
  | c :: cs, 0, _ => rfl
  | c :: cs, j + 1, h => by
    have q := wide_lo d cs j (by simpa using h)
    rw [show 2 * (j + 1) = 2 * j + 1 + 1 from by omega]
    simpa [wideBytes] using q
theorem wide_hi (d : Value) : ∀ (cs : List Int32) (j : Nat), j < cs.length → (wideBytes cs).getD (2 * j + 1) d = .int (hi8 (cs.getD j 0))
  | [], j, h => absurd h (Nat.not_lt_zero j)
  | c :: cs, 0, _ => rfl
  | c :: cs, j + 1, h => by
    have q := wide_hi d cs j (by simpa using h)
    rw [show 2 * (j + 1) + 1 = 2 * j + 1 + 1 + 1 from by omega]
    simpa [wideBytes] using q
theorem low_at (d : Value) (cs : List Int32) (j : Nat) (h : j < cs.length) : (cs.map fun c => Value.int (lo8 c)).getD j d = .int (lo8 (cs.getD j 0)) := by
  simp [List.getD_eq_getElem?_getD, h]
/-- an array of N2 bytes vs codes the chars cs by the coder cd -/
def CodA (cs : List Int32) (cd N2 : Int32) (vs : List Value) : Prop := (cd = 0 ∧ N2 = Int32.ofNat cs.length ∧ vs = (cs.map fun c => Value.int (lo8 c)) ∧ ∀ c ∈ cs, ¬ 255 < c) ∨ (cd = 1 ∧ N2 = Int32.ofNat (2 * cs.length) ∧ vs = wideBytes cs ∧ ∃ c ∈ cs, 255 < c)
theorem CodA.cod {cs : List Int32} {cd N2 : Int32} {vs : List Value} {V : Cell} (h : CodA cs cd N2 vs) (hn : 2 * cs.length < 2 ^ 31) (hs : V.slots.size = N2.toNatClampNeg) (hv : RoadKit.Has V vs (.int 0)) : Cod cd cs.length (fun j => cs.getD j 0) V := by
  rcases h with ⟨rfl, rfl, rfl, h⟩ | ⟨rfl, rfl, rfl, c, hc, hw⟩
  · rw [n32 (by omega)] at hs
    exact Or.inl ⟨rfl, hs, fun j hj => ⟨by rw [hv j (by omega), low_at _ _ _ hj], by
      have e : cs.getD j 0 = cs[j] := by simp [List.getD_eq_getElem?_getD, hj]
      show ¬ 255 < cs.getD j 0
      rw [e]; exact h _ (List.getElem_mem _)⟩⟩
  · rw [n32 (by omega)] at hs
    obtain ⟨j, hj, rfl⟩ := List.getElem_of_mem hc
    exact Or.inr ⟨rfl, hs, fun j hj => ⟨by rw [hv _ (by omega), wide_lo _ _ _ hj], by rw [hv _ (by omega), wide_hi _ _ _ hj]⟩, j, hj, by
      have e : cs.getD j 0 = cs[j] := by simp [List.getD_eq_getElem?_getD, hj]
      show 255 < cs.getD j 0
      rw [e]; exact hw⟩
/-- an object of exactly java/lang/String, its two fields found: as the laws ask it -/
theorem strObj {Z U : State} {a0 : Array Value} {kI : Nat} (wi : (Jvm.Cond.instantiable ST kI).before a0 Z = true) (al : Z.vm.Alike U.vm) {x : Addr} {v0 c0 : Value} (E : RoadKit.Exa Z U.heap x ST) (V : RoadKit.Fld Z U.heap x ST "value" "[B" v0) (C : RoadKit.Fld Z U.heap x ST "coder" "B" c0) :
    ∃ (D : Cell) (fV fC : Field), Blank ST x D U ∧ Found ST "value" "[B" fV U ∧ Found ST "coder" "B" fC U ∧ D.slots[fV.slot]? = some v0 ∧ D.slots[fC.slot]? = some c0 ∧ RoadKit.slotOf Z ST "value" "[B" = fV.slot ∧ RoadKit.slotOf Z ST "coder" "B" = fC.slot := by
  obtain ⟨D, cfV, kV, iV, fV, hD, gV, stV, knV, obV, asV, slV⟩ := V
  obtain ⟨D', cfC, kC, iC, fC, hD', gC, stC, -, -, asC, slC⟩ := C
  cases hD.symm.trans hD'
  obtain ⟨D2, kD, e1, e2, e3, e4, e5⟩ := E
  cases hD.symm.trans e1
  obtain ⟨c2, k2, i1, i2, i3, -⟩ := Cond.instantiable_spec wi
  cases e2.symm.trans i1
  cases e3.symm.trans i2
  obtain ⟨kU, u1, u2⟩ := al.2.2 _ _ e3
  exact ⟨D, fV, fC, ⟨hD, ⟨knV, fun q hq => by rw [hq] at obV; cases obV⟩, by rw [al.findClass]; exact e2, kU, u1, by rw [u2]; exact i3, by rw [u2]; exact e5 i3⟩, ⟨SBG.found_only al ⟨cfV, kV, iV, gV⟩, stV⟩, ⟨SBG.found_only al ⟨cfC, kC, iC, gC⟩, stC⟩, slV, slC, by simp [RoadKit.slotOf, gV], by simp [RoadKit.slotOf, gC]⟩
theorem sta_is {Z U : State} (al : Z.vm.Alike U.vm) {C n d : String} {v : Value} (S : RoadKit.Sta Z U.heap C n d v) : StaticIs U C n d v := by
  obtain ⟨cfS, iS, kS, fS, st, cS, t1, t2, t3, t4, t5, t6, t7⟩ := S
  exact StaticIs.there (s := { Z with heap := U.heap }) ⟨cfS, iS, kS, fS, st, cS, t1, t2, t3, t4, t5, (fun q => by rw [q] at t6; cases t6), t7⟩ al rfl
/-- **length() OF SUCH A STRING** -/
theorem lenW {p : Program} {l : Launch} {e : Env} {R : Room} {s : State} {args : Array Value} {below : List Frame} {len W : Nat} {Z : State} {a0 : Array Value} {h : Heap} (hZ : Z.Warmed39 s.vm) (hw : ∀ d ∈ wordsLen, d.before a0 Z = true) {kI : Nat} (wi : (Jvm.Cond.instantiable ST kI).before a0 Z = true)
    {x t : Addr} {kb : ClassId} {cs : List Int32} {cd N2 z : Int32} {vs : List Value} (E : RoadKit.Exa Z h x ST) (V : RoadKit.Fld Z h x ST "value" "[B" (.ref t)) (C : RoadKit.Fld Z h x ST "coder" "B" (.int cd)) (K : RoadKit.Arv Z h t kb .byte N2 vs (.int 0)) (hc : CodA cs cd N2 vs) (hb : ∀ c ∈ cs, ¬ c < 0 ∧ ¬ (65535 : Int32) < c)
    (S : RoadKit.Sta Z h ST "COMPACT_STRINGS" "Z" (.int z)) (hz : ¬ z = 0) (l2 : cs.length ≤ 4000) (hfr : 2 ≤ R.frames) (hlo : W + 25 ≤ R.locals) :
    Back l R p e below s args (⟨"java/lang/String", "length", "()I"⟩ : MethodName) len W (fun P a => a = #[.ref x] ∧ P.U.heap = h ∧ P.cells + 0 ≤ R.cells ∧ P.slots + 0 ≤ R.slots)
      (fun P _ v B => ∃ L, (v = some (.int (Int32.ofNat cs.length)) ∧ L = [] ∧ B.U.heap = h) ∧ B.locs = P.locs ++ L ∧ B.cells = P.cells + 0 ∧ B.slots = P.slots + 0) := by
  obtain ⟨A, K1, K2, K3, K4, K5, K6⟩ := K
  have hcod := hc.cod (by omega) K3 K5
  intro m meth c P g ig mk a X hg hsize hdg hW hn hp'
  obtain ⟨rfl, rfl, r1, r2⟩ := hp'
  have al : Z.vm.Alike P.U.vm := hZ.alike.trans X.warmed.alike
  obtain ⟨D, fV, fC, hB, F1, F2, g1, g2, -, -⟩ := strObj wi al E V C
  have hx : Txt x t A cd cs.length (fun j => cs.getD j 0) P.U := ⟨⟨_, hB.2.2.1, D, hB.1, rfl, by cases q : D.vm <;> first | rfl | exact absurd q (hB.2.1.2 _)⟩, Has.of hB F1 g1, Has.of hB F2 g2, ⟨K1.1, State.isArrayOf_alike al K1.2.1, K1.2.2, by rcases hcod with ⟨-, q, -⟩ | ⟨-, q, -⟩ <;> omega⟩, hcod, fun j hj => by
    have e : cs.getD j 0 = cs[j] := by simp [List.getD_eq_getElem?_getD, hj]
    show ¬ cs.getD j 0 < 0 ∧ ¬ 65535 < cs.getD j 0
    rw [e]; exact hb _ (List.getElem_mem _)⟩
  obtain ⟨v, B, X', ⟨⟨hv, hh⟩, hl, hk, hs⟩, st⟩ := Len.pays x t A cd cs.length (fun j => cs.getD j 0) z (tabLen_of (movedLen hZ hw)) hfr hlo m meth c P g ig mk _ X hg hsize hdg hW hn ⟨r1, r2, rfl, hx, sta_is al S, hz⟩
  exact ⟨v, B, X', ⟨[], ⟨hv, rfl, hh⟩, hl, hk, hs⟩, st⟩
end StrChars.Road
namespace StrChars.Road
open Jvm Sem ClassFile Op Lib Jvm.Stand Jvm.Free Jvm.Free.XT
open Jvm.Lib.Cold (StaticIs)
/-- what backV says of its String, as the contracts of this text ask it: cs's low bytes, coder 0 -/
theorem codOf {cs : List Int32} {n : Nat} (hn : cs.length = n) (hb : ∀ c ∈ cs, ¬ 255 < c) : CodA cs 0 (Int32.ofNat n) ((cs.map lo8).map Value.int) := Or.inl ⟨rfl, by rw [hn], by simp [List.map_map, Function.comp_def], hb⟩
end StrChars.Road
end Jvm.Pilot.@@N@@

namespace Jvm.Pilot.@@N@@
open Jvm Jvm.ClassFile Sem Op Lib Jvm.Free Jvm.Stand Jvm.LawKit Jvm.RoadKit Bundle Jvm.Pilot.@@N@@.Jvm.D
namespace Ow
/-- from T with the top frame g the invocation comes to its end, and there Q holds -/
def Run (p : Program) (e : Env) (below : List Frame) (Q : Outcome → State → Prop) (T : State) (g : JFrame) : Prop :=
  ∃ s₂ o, Steps p.tables e below (T.setTop g) s₂ ∧ s₂.status = .running ∧ Ended s₂ below o ∧ Q o s₂
/-- x >>> y of a long -/
def ushJ (x : Int64) (y : Int32) : Int64 := (x.toUInt64 >>> (y &&& 0x3f).toInt64.toUInt64).toInt64
/-- what a walk that may intern keeps beside its Stand: nothing in it speaks of the state at hand but by its heap -/
def Rs (s : State) (m : MethodId) (Z : State) (EL : List (String × Nat)) (own : String) (h0 : Heap) (ws : List Addr) (vm0 : Vm) (k0 : Nat) (locs : List Loc) (h : Heap) (S : List Addr) : Prop :=
  s.Since vm0 k0 ∧ k0 ≤ h.size ∧ Z.Warmed39 vm0 ∧ vm0.findClass own = some m.cls ∧ CHr Z EL s.vm h0 vm0 h ∧ Fr Z.heap.size locs ∧ Keep h0 h ws ∧ Ext Z.heap h0 ∧ (∀ x ∈ ws, Z.heap.size ≤ x) ∧ ∀ x ∈ S, x < h.size ∧ Safe Z EL vm0 h x
/-- where a walk stands: its heap h, what it has made, and the addresses S that no constant books -/
def Wk (p : Program) (l : Launch) (e : Env) (R : Room) (s : State) (m : MethodId) (args : Array Value) (below : List Frame) (meth : Method) (c : Code) (Z : State) (EL : List (String × Nat)) (own : String) (h0 : Heap) (ws : List Addr)
    (T : State) (h : Heap) (cells slots : Nat) (S : List Addr) : Prop :=
  ∃ (vm0 : Vm) (k0 : Nat) (locs : List Loc), p.tables.exec = Jvm.exec ∧ Stand p l e R (s.setVm vm0) m args below meth c T locs cells slots ∧ T.heap = h ∧ Rs s m Z EL own h0 ws vm0 k0 locs h S
section Kit
variable {p : Program} {l : Launch} {e : Env} {R : Room} {s : State} {m : MethodId} {args : Array Value} {below : List Frame} {meth : Method} {c : Code} {Z : State} {a0 : Array Value} {EL : List (String × Nat)} {own : String} {h0 : Heap} {ws : List Addr} {T T' : State} {h h' hB : Heap} {cells slots : Nat} {S : List Addr} {Q : Outcome → State → Prop} {pc pc' pc1 pc2 : Nat} {Ls l' : Array Slot} {rest st : List Value} {vm0 : Vm} {k0 : Nat} {locs : List Loc} {g g' : JFrame}
theorem Run.to (f : ∀ t, Steps p.tables e below (T'.setTop g') t → Steps p.tables e below (T.setTop g) t) (k : Run p e below Q T' g') : Run p e below Q T g := by
  obtain ⟨a, b, q, r⟩ := k
  exact ⟨a, b, f _ q, r⟩
theorem Run.stp (f : Steps p.tables e below (T.setTop g) (T'.setTop g')) (k : Run p e below Q T' g') : Run p e below Q T g := Run.to (fun _ q => f.trans q) k
theorem Run.join {α : Type} {C : α → Prop} {F : α → JFrame} (k1 : ∀ a, C a → Run p e below Q T (F a)) (k2 : (∀ a, C a → Run p e below Q T (F a)) → Run p e below Q T g) : Run p e below Q T g := k2 k1
theorem Run.joinW (w : Wk p l e R s m args below meth c Z EL own h0 ws T h cells slots S) {α : Type} {C : α → Prop} {F : α → JFrame} (k1 : ∀ T' a, Wk p l e R s m args below meth c Z EL own h0 ws T' h cells slots S → C a → Run p e below Q T' (F a)) (k2 : (∀ T' a, Wk p l e R s m args below meth c Z EL own h0 ws T' h cells slots S → C a → Run p e below Q T' (F a)) → Run p e below Q T g) : Run p e below Q T g := k2 k1
theorem Run.cast (q : g = g') (k : Run p e below Q T g') : Run p e below Q T g := q ▸ k
theorem Rs.ch (r : Rs s m Z EL own h0 ws vm0 k0 locs h S) : CHv Z EL vm0 h := r.2.2.2.2.1.1
theorem Rs.hZ (r : Rs s m Z EL own h0 ws vm0 k0 locs h S) : Z.Warmed39 (s.setVm vm0).vm := r.2.2.1
theorem Rs.ow (r : Rs s m Z EL own h0 ws vm0 k0 locs h S) : (s.setVm vm0).vm.findClass own = some m.cls := r.2.2.2.1
theorem Rs.keep (r : Rs s m Z EL own h0 ws vm0 k0 locs h S) : Keep h0 h ws := r.2.2.2.2.2.2.1
theorem Rs.ext (r : Rs s m Z EL own h0 ws vm0 k0 locs h S) (E : Ext h h') : Rs s m Z EL own h0 ws vm0 k0 locs h' S := by
  obtain ⟨a1, a2, a3, a4, a5, a6, a7, a8, a9, a10⟩ := r
  exact ⟨a1, Nat.le_trans a2 E.1, a3, a4, a5.trans (CHr.ext E a5.1), a6, a7.ext E, a8, a9, fun x q => ⟨Nat.lt_of_lt_of_le (a10 x q).1 E.1, Safe.ext E a5.1 (a10 x q).2⟩⟩
theorem Rs.add (r : Rs s m Z EL own h0 ws vm0 k0 locs h S) (E : Ext h h') {x : Addr} (q1 : h.size ≤ x) (q2 : x < h'.size) : Rs s m Z EL own h0 ws vm0 k0 locs h' (x :: S) := by
  have r' := r.ext E
  obtain ⟨a1, a2, a3, a4, a5, a6, a7, a8, a9, a10⟩ := r'
  refine ⟨a1, a2, a3, a4, a5, a6, a7, a8, a9, fun y q => ?_⟩
  rcases List.mem_cons.mp q with rfl | q
  · exact ⟨q2, Safe.ext E r.ch (Safe.new q1)⟩
  · exact a10 y q
theorem Rs.wr (r : Rs s m Z EL own h0 ws vm0 k0 locs h S) {a : Addr} {sl : Nat} {v : Value} (W : Wr h h' a sl v) (Sa : Safe Z EL vm0 h a) (q : a ∈ ws ∨ h0.size ≤ a) : Rs s m Z EL own h0 ws vm0 k0 (locs ++ [⟨a, sl⟩]) h' S := by
  obtain ⟨a1, a2, a3, a4, a5, a6, a7, a8, a9, a10⟩ := r
  have hsz := W.size
  refine ⟨a1, by rw [hsz]; exact a2, a3, a4, a5.trans (CHr.wr W Sa a5.1), a6.app fun y hy => ?_, a7.wr W q, a8, a9, fun x z => ⟨by rw [hsz]; exact (a10 x z).1, Safe.wr W Sa a5.1 (a10 x z).2⟩⟩
  rw [List.mem_singleton.mp hy]
  rcases q with q | q
  · exact a9 _ q
  · exact Nat.le_trans a8.1 q
theorem Rs.sub (r : Rs s m Z EL own h0 ws vm0 k0 locs h S) {S' : List Addr} (q : ∀ x ∈ S', x ∈ S) : Rs s m Z EL own h0 ws vm0 k0 locs h S' := by
  obtain ⟨a1, a2, a3, a4, a5, a6, a7, a8, a9, a10⟩ := r
  exact ⟨a1, a2, a3, a4, a5, a6, a7, a8, a9, fun x z => a10 x (q x z)⟩
theorem Ext.rf (h : Heap) : Ext h h := ⟨Nat.le_refl _, fun _ _ q => q⟩
theorem Ext.tr {h2 : Heap} (E : Ext h h') (F : Ext h' h2) : Ext h h2 := ⟨Nat.le_trans E.1 F.1, fun x c q => F.2 x c (E.2 x c q)⟩
theorem Ext.wr' (E : Ext hB h) {a : Addr} {sl : Nat} {v : Value} (W : Wr h h' a sl v) (q : hB.size ≤ a) : Ext hB h' := by
  have hsz := W.size
  refine ⟨by rw [hsz]; exact E.1, fun x c z => ?_⟩
  obtain ⟨c0, -, -, -, rfl⟩ := W
  have hx := (Array.getElem?_eq_some_iff.mp z).1
  rw [Array.getElem?_setIfInBounds_ne (by omega)]
  exact E.2 x c z
theorem Ext.kp (E : Ext hB h) {vs : List Addr} (K : Keep h h' vs) (q : ∀ x ∈ vs, hB.size ≤ x) : Ext hB h' := by
  refine ⟨Nat.le_trans E.1 K.1, fun x c z => K.2.1 x c (E.2 x c z) fun hm => ?_⟩
  have hx := (Array.getElem?_eq_some_iff.mp z).1
  have := q x hm
  omega
theorem Keep.ext0 (K : Keep h h' []) : Ext h h' := ⟨K.1, fun x c q => K.2.1 x c q nin0⟩
theorem Wk.at (w : Wk p l e R s m args below meth c Z EL own h0 ws T h cells slots S) : At T m c below := by obtain ⟨_, _, _, -, X, -⟩ := w; exact X.here
theorem Wk.hx (w : Wk p l e R s m args below meth c Z EL own h0 ws T h cells slots S) : p.tables.exec = Jvm.exec := by obtain ⟨_, _, _, q, -⟩ := w; exact q
theorem Wk.keep (w : Wk p l e R s m args below meth c Z EL own h0 ws T h cells slots S) : Keep h0 h ws := by obtain ⟨_, _, _, -, -, -, r⟩ := w; exact r.keep
theorem Rs.old (r : Rs s m Z EL own h0 ws vm0 k0 locs h S) : Ext Z.heap h := Ext.kp r.2.2.2.2.2.2.2.1 r.keep r.2.2.2.2.2.2.2.2.1
theorem Wk.old (w : Wk p l e R s m args below meth c Z EL own h0 ws T h cells slots S) : Ext Z.heap h := by obtain ⟨_, _, _, -, -, -, r⟩ := w; exact r.old
theorem Wk.mono (w : Wk p l e R s m args below meth c Z EL own h0 ws T h cells slots S) {cells' slots' : Nat} (q1 : cells ≤ cells') (q2 : slots ≤ slots') : Wk p l e R s m args below meth c Z EL own h0 ws T h cells' slots' S := by
  obtain ⟨vm0, k0, locs, hx, X, r⟩ := w
  exact ⟨vm0, k0, locs, hx, X.mono q1 q2, r⟩
theorem Wk.sub (w : Wk p l e R s m args below meth c Z EL own h0 ws T h cells slots S) {S' : List Addr} (q : ∀ x ∈ S', x ∈ S) : Wk p l e R s m args below meth c Z EL own h0 ws T h cells slots S' := by
  obtain ⟨vm0, k0, locs, hx, X, eT, r⟩ := w
  exact ⟨vm0, k0, locs, hx, X, eT, r.sub q⟩
theorem s_iadd (w : Wk p l e R s m args below meth c Z EL own h0 ws T h cells slots S) {x y : Int32} (hd : decode c.code pc = .ok (.iadd, 1)) (hp : pc + 1 = pc') (k : Run p e below Q T (mkF m pc' Ls (.int (x + y) :: rest))) : Run p e below Q T (mkF m pc Ls (.int y :: .int x :: rest)) := by
  subst hp; exact Run.to (fun _ q => XS.iadd w.at w.hx rfl hd rfl q) k
theorem s_isub (w : Wk p l e R s m args below meth c Z EL own h0 ws T h cells slots S) {x y : Int32} (hd : decode c.code pc = .ok (.isub, 1)) (hp : pc + 1 = pc') (k : Run p e below Q T (mkF m pc' Ls (.int (x - y) :: rest))) : Run p e below Q T (mkF m pc Ls (.int y :: .int x :: rest)) := by
  subst hp; exact Run.to (fun _ q => XS.isub w.at w.hx rfl hd rfl q) k
theorem s_iand (w : Wk p l e R s m args below meth c Z EL own h0 ws T h cells slots S) {x y : Int32} (hd : decode c.code pc = .ok (.iand, 1)) (hp : pc + 1 = pc') (k : Run p e below Q T (mkF m pc' Ls (.int (x &&& y) :: rest))) : Run p e below Q T (mkF m pc Ls (.int y :: .int x :: rest)) := by
  subst hp; exact Run.to (fun _ q => XS.iand w.at w.hx rfl hd rfl q) k
theorem s_imul (w : Wk p l e R s m args below meth c Z EL own h0 ws T h cells slots S) {x y : Int32} (hd : decode c.code pc = .ok (.imul, 1)) (hp : pc + 1 = pc') (k : Run p e below Q T (mkF m pc' Ls (.int (x * y) :: rest))) : Run p e below Q T (mkF m pc Ls (.int y :: .int x :: rest)) := by
  subst hp; exact Run.to (fun _ q => XS.imul w.at w.hx rfl hd rfl q) k
theorem s_ixor (w : Wk p l e R s m args below meth c Z EL own h0 ws T h cells slots S) {x y : Int32} (hd : decode c.code pc = .ok (.ixor, 1)) (hp : pc + 1 = pc') (k : Run p e below Q T (mkF m pc' Ls (.int (x ^^^ y) :: rest))) : Run p e below Q T (mkF m pc Ls (.int y :: .int x :: rest)) := by
  subst hp; exact Run.to (fun _ q => XT.ixor w.at w.hx rfl hd rfl q) k
theorem s_ior (w : Wk p l e R s m args below meth c Z EL own h0 ws T h cells slots S) {x y : Int32} (hd : decode c.code pc = .ok (.ior, 1)) (hp : pc + 1 = pc') (k : Run p e below Q T (mkF m pc' Ls (.int (x ||| y) :: rest))) : Run p e below Q T (mkF m pc Ls (.int y :: .int x :: rest)) := by
  subst hp; exact Run.to (fun _ q => XT.ior w.at w.hx rfl hd rfl q) k
theorem s_ishl (w : Wk p l e R s m args below meth c Z EL own h0 ws T h cells slots S) {x y : Int32} (hd : decode c.code pc = .ok (.ishl, 1)) (hp : pc + 1 = pc') (k : Run p e below Q T (mkF m pc' Ls (.int (x <<< (y &&& 31)) :: rest))) : Run p e below Q T (mkF m pc Ls (.int y :: .int x :: rest)) := by
  subst hp; exact Run.to (fun _ q => XT.ishl w.at w.hx rfl hd rfl q) k
theorem s_ishr (w : Wk p l e R s m args below meth c Z EL own h0 ws T h cells slots S) {x y : Int32} (hd : decode c.code pc = .ok (.ishr, 1)) (hp : pc + 1 = pc') (k : Run p e below Q T (mkF m pc' Ls (.int (x >>> (y &&& 31)) :: rest))) : Run p e below Q T (mkF m pc Ls (.int y :: .int x :: rest)) := by
  subst hp; exact Run.to (fun _ q => XT.ishr w.at w.hx rfl hd rfl q) k
theorem s_iushr (w : Wk p l e R s m args below meth c Z EL own h0 ws T h cells slots S) {x y : Int32} (hd : decode c.code pc = .ok (.iushr, 1)) (hp : pc + 1 = pc') (k : Run p e below Q T (mkF m pc' Ls (.int (XT.ushr x y) :: rest))) : Run p e below Q T (mkF m pc Ls (.int y :: .int x :: rest)) := by
  subst hp; exact Run.to (fun _ q => XT.iushr w.at w.hx rfl hd rfl q) k
theorem s_irem (w : Wk p l e R s m args below meth c Z EL own h0 ws T h cells slots S) {x y : Int32} (hd : decode c.code pc = .ok (.irem, 1)) (hy : y ≠ 0) (hp : pc + 1 = pc') (k : Run p e below Q T (mkF m pc' Ls (.int (x % y) :: rest))) : Run p e below Q T (mkF m pc Ls (.int y :: .int x :: rest)) := by
  subst hp; obtain ⟨_, _, _, hx, X, -⟩ := w; exact Run.to (fun _ q => iremM X hx rfl hd rfl hy q) k
theorem s_idiv (w : Wk p l e R s m args below meth c Z EL own h0 ws T h cells slots S) {x y : Int32} (hd : decode c.code pc = .ok (.idiv, 1)) (hy : y ≠ 0) (hp : pc + 1 = pc') (k : Run p e below Q T (mkF m pc' Ls (.int (x / y) :: rest))) : Run p e below Q T (mkF m pc Ls (.int y :: .int x :: rest)) := by
  subst hp; exact Run.to (fun _ q => XS.idiv w.at w.hx rfl hd rfl hy q) k
theorem s_ladd (w : Wk p l e R s m args below meth c Z EL own h0 ws T h cells slots S) {x y : Int64} (hd : decode c.code pc = .ok (.ladd, 1)) (hp : pc + 1 = pc') (k : Run p e below Q T (mkF m pc' Ls (.long (x + y) :: rest))) : Run p e below Q T (mkF m pc Ls (.long y :: .long x :: rest)) := by
  subst hp; exact Run.to (fun _ q => XT.ladd w.at w.hx rfl hd rfl q) k
theorem s_lsub (w : Wk p l e R s m args below meth c Z EL own h0 ws T h cells slots S) {x y : Int64} (hd : decode c.code pc = .ok (.lsub, 1)) (hp : pc + 1 = pc') (k : Run p e below Q T (mkF m pc' Ls (.long (x - y) :: rest))) : Run p e below Q T (mkF m pc Ls (.long y :: .long x :: rest)) := by
  subst hp; exact Run.to (fun _ q => XT.lsub w.at w.hx rfl hd rfl q) k
theorem s_lmul (w : Wk p l e R s m args below meth c Z EL own h0 ws T h cells slots S) {x y : Int64} (hd : decode c.code pc = .ok (.lmul, 1)) (hp : pc + 1 = pc') (k : Run p e below Q T (mkF m pc' Ls (.long (x * y) :: rest))) : Run p e below Q T (mkF m pc Ls (.long y :: .long x :: rest)) := by
  subst hp; exact Run.to (fun _ q => XT.lmul w.at w.hx rfl hd rfl q) k
theorem s_land (w : Wk p l e R s m args below meth c Z EL own h0 ws T h cells slots S) {x y : Int64} (hd : decode c.code pc = .ok (.land, 1)) (hp : pc + 1 = pc') (k : Run p e below Q T (mkF m pc' Ls (.long (x &&& y) :: rest))) : Run p e below Q T (mkF m pc Ls (.long y :: .long x :: rest)) := by
  subst hp; exact Run.to (fun _ q => XT.land w.at w.hx rfl hd rfl q) k
theorem s_lor (w : Wk p l e R s m args below meth c Z EL own h0 ws T h cells slots S) {x y : Int64} (hd : decode c.code pc = .ok (.lor, 1)) (hp : pc + 1 = pc') (k : Run p e below Q T (mkF m pc' Ls (.long (x ||| y) :: rest))) : Run p e below Q T (mkF m pc Ls (.long y :: .long x :: rest)) := by
  subst hp; exact Run.to (fun _ q => XT.lor w.at w.hx rfl hd rfl q) k
theorem s_lxor (w : Wk p l e R s m args below meth c Z EL own h0 ws T h cells slots S) {x y : Int64} (hd : decode c.code pc = .ok (.lxor, 1)) (hp : pc + 1 = pc') (k : Run p e below Q T (mkF m pc' Ls (.long (x ^^^ y) :: rest))) : Run p e below Q T (mkF m pc Ls (.long y :: .long x :: rest)) := by
  subst hp; exact Run.to (fun _ q => XT.lxor w.at w.hx rfl hd rfl q) k
theorem s_lshl (w : Wk p l e R s m args below meth c Z EL own h0 ws T h cells slots S) {x : Int64} {y : Int32} (hd : decode c.code pc = .ok (.lshl, 1)) (hp : pc + 1 = pc') (k : Run p e below Q T (mkF m pc' Ls (.long (x <<< (y &&& 0x3f).toInt64) :: rest))) : Run p e below Q T (mkF m pc Ls (.int y :: .long x :: rest)) := by
  subst hp; exact Run.to (fun _ q => XS.lshl w.at w.hx rfl hd rfl q) k
theorem s_lshr (w : Wk p l e R s m args below meth c Z EL own h0 ws T h cells slots S) {x : Int64} {y : Int32} (hd : decode c.code pc = .ok (.lshr, 1)) (hp : pc + 1 = pc') (k : Run p e below Q T (mkF m pc' Ls (.long (x >>> (y &&& 0x3f).toInt64) :: rest))) : Run p e below Q T (mkF m pc Ls (.int y :: .long x :: rest)) := by
  subst hp; exact Run.to (fun _ q => XS.lshr w.at w.hx rfl hd rfl q) k
theorem s_lushr (w : Wk p l e R s m args below meth c Z EL own h0 ws T h cells slots S) {x : Int64} {y : Int32} (hd : decode c.code pc = .ok (.lushr, 1)) (hp : pc + 1 = pc') (k : Run p e below Q T (mkF m pc' Ls (.long (ushJ x y) :: rest))) : Run p e below Q T (mkF m pc Ls (.int y :: .long x :: rest)) := by
  subst hp; exact Run.to (fun _ q => XS.lushr w.at w.hx rfl hd rfl q) k
theorem s_lcmp (w : Wk p l e R s m args below meth c Z EL own h0 ws T h cells slots S) {x y : Int64} (hd : decode c.code pc = .ok (.lcmp, 1)) (hp : pc + 1 = pc') (k : Run p e below Q T (mkF m pc' Ls (.int (XT.cmpL x y) :: rest))) : Run p e below Q T (mkF m pc Ls (.long y :: .long x :: rest)) := by
  subst hp; exact Run.to (fun _ q => XT.lcmp w.at w.hx rfl hd rfl q) k
theorem s_ineg (w : Wk p l e R s m args below meth c Z EL own h0 ws T h cells slots S) {x : Int32} (hd : decode c.code pc = .ok (.ineg, 1)) (hp : pc + 1 = pc') (k : Run p e below Q T (mkF m pc' Ls (.int (-x) :: rest))) : Run p e below Q T (mkF m pc Ls (.int x :: rest)) := by
  subst hp; exact Run.to (fun _ q => XS.ineg w.at w.hx rfl hd rfl q) k
theorem s_i2l (w : Wk p l e R s m args below meth c Z EL own h0 ws T h cells slots S) {x : Int32} (hd : decode c.code pc = .ok (.i2l, 1)) (hp : pc + 1 = pc') (k : Run p e below Q T (mkF m pc' Ls (.long x.toInt64 :: rest))) : Run p e below Q T (mkF m pc Ls (.int x :: rest)) := by
  subst hp; exact Run.to (fun _ q => XT.i2l w.at w.hx rfl hd rfl q) k
theorem s_l2i (w : Wk p l e R s m args below meth c Z EL own h0 ws T h cells slots S) {x : Int64} (hd : decode c.code pc = .ok (.l2i, 1)) (hp : pc + 1 = pc') (k : Run p e below Q T (mkF m pc' Ls (.int x.toInt32 :: rest))) : Run p e below Q T (mkF m pc Ls (.long x :: rest)) := by
  subst hp; exact Run.to (fun _ q => XT.l2i w.at w.hx rfl hd rfl q) k
theorem s_i2b (w : Wk p l e R s m args below meth c Z EL own h0 ws T h cells slots S) {x : Int32} (hd : decode c.code pc = .ok (.i2b, 1)) (hp : pc + 1 = pc') (k : Run p e below Q T (mkF m pc' Ls (.int x.toInt8.toInt32 :: rest))) : Run p e below Q T (mkF m pc Ls (.int x :: rest)) := by
  subst hp; exact Run.to (fun _ q => XT.i2b w.at w.hx rfl hd rfl q) k
theorem s_i2s (w : Wk p l e R s m args below meth c Z EL own h0 ws T h cells slots S) {x : Int32} (hd : decode c.code pc = .ok (.i2s, 1)) (hp : pc + 1 = pc') (k : Run p e below Q T (mkF m pc' Ls (.int x.toInt16.toInt32 :: rest))) : Run p e below Q T (mkF m pc Ls (.int x :: rest)) := by
  subst hp; exact Run.to (fun _ q => XT.i2s w.at w.hx rfl hd rfl q) k
theorem s_i2c (w : Wk p l e R s m args below meth c Z EL own h0 ws T h cells slots S) {x : Int32} (hd : decode c.code pc = .ok (.i2c, 1)) (hp : pc + 1 = pc') (k : Run p e below Q T (mkF m pc' Ls (.int (nar .char x) :: rest))) : Run p e below Q T (mkF m pc Ls (.int x :: rest)) := by
  subst hp; exact Run.to (fun _ q => XT.i2c w.at w.hx rfl hd rfl q) k
theorem s_dup (w : Wk p l e R s m args below meth c Z EL own h0 ws T h cells slots S) {x : Value} (hd : decode c.code pc = .ok (.dup, 1)) (hc : x.category = 1) (hp : pc + 1 = pc') (k : Run p e below Q T (mkF m pc' Ls (x :: x :: rest))) : Run p e below Q T (mkF m pc Ls (x :: rest)) := by
  subst hp; exact Run.to (fun _ q => XS.dup w.at w.hx rfl hd rfl hc q) k
theorem s_pop (w : Wk p l e R s m args below meth c Z EL own h0 ws T h cells slots S) {x : Value} (hd : decode c.code pc = .ok (.pop, 1)) (hc : x.category = 1) (hp : pc + 1 = pc') (k : Run p e below Q T (mkF m pc' Ls rest)) : Run p e below Q T (mkF m pc Ls (x :: rest)) := by
  subst hp; exact Run.to (fun _ q => XT.pop w.at w.hx rfl hd rfl hc q) k
theorem s_dup_x1 (w : Wk p l e R s m args below meth c Z EL own h0 ws T h cells slots S) {x y : Value} (hd : decode c.code pc = .ok (.dup_x1, 1)) (hc : x.category = 1) (hc' : y.category = 1) (hp : pc + 1 = pc') (k : Run p e below Q T (mkF m pc' Ls (x :: y :: x :: rest))) : Run p e below Q T (mkF m pc Ls (x :: y :: rest)) := by
  subst hp; exact Run.to (fun _ q => XT.dupX1 w.at w.hx rfl hd rfl hc hc' q) k
theorem s_dup2 (w : Wk p l e R s m args below meth c Z EL own h0 ws T h cells slots S) {x y : Value} (hd : decode c.code pc = .ok (.dup2, 1)) (hc : x.category = 1) (hc' : y.category = 1) (hp : pc + 1 = pc') (k : Run p e below Q T (mkF m pc' Ls (x :: y :: x :: y :: rest))) : Run p e below Q T (mkF m pc Ls (x :: y :: rest)) := by
  subst hp; exact Run.to (fun _ q => XT.dup2 w.at w.hx rfl hd rfl hc hc' q) k
theorem s_iconst (w : Wk p l e R s m args below meth c Z EL own h0 ws T h cells slots S) {i : Int} {v : Int32} (hd : decode c.code pc = .ok (.iconst i, 1)) (hv : Int32.ofInt i = v) (hp : pc + 1 = pc') (k : Run p e below Q T (mkF m pc' Ls (.int v :: st))) : Run p e below Q T (mkF m pc Ls st) := by
  subst hp hv; exact Run.to (fun _ q => XS.iconst w.at w.hx rfl hd q) k
theorem s_bipush (w : Wk p l e R s m args below meth c Z EL own h0 ws T h cells slots S) {i : Int} {v : Int32} (hd : decode c.code pc = .ok (.bipush i, 2)) (hv : (Int8.ofInt i).toInt32 = v) (hp : pc + 2 = pc') (k : Run p e below Q T (mkF m pc' Ls (.int v :: st))) : Run p e below Q T (mkF m pc Ls st) := by
  subst hp hv; exact Run.to (fun _ q => XS.bipush w.at w.hx rfl hd q) k
theorem s_sipush (w : Wk p l e R s m args below meth c Z EL own h0 ws T h cells slots S) {i : Int} {v : Int32} (hd : decode c.code pc = .ok (.sipush i, 3)) (hv : (Int16.ofInt i).toInt32 = v) (hp : pc + 3 = pc') (k : Run p e below Q T (mkF m pc' Ls (.int v :: st))) : Run p e below Q T (mkF m pc Ls st) := by
  subst hp hv; exact Run.to (fun _ q => XS.sipush w.at w.hx rfl hd q) k
theorem s_lconst (w : Wk p l e R s m args below meth c Z EL own h0 ws T h cells slots S) {i : Fin 2} {v : Int64} (hd : decode c.code pc = .ok (.lconst i, 1)) (hv : Int64.ofNat i = v) (hp : pc + 1 = pc') (k : Run p e below Q T (mkF m pc' Ls (.long v :: st))) : Run p e below Q T (mkF m pc Ls st) := by
  subst hp hv; exact Run.to (fun _ q => XT.lconst w.at w.hx rfl hd q) k
theorem s_anull (w : Wk p l e R s m args below meth c Z EL own h0 ws T h cells slots S) (hd : decode c.code pc = .ok (.aconst_null, 1)) (hp : pc + 1 = pc') (k : Run p e below Q T (mkF m pc' Ls (.null :: st))) : Run p e below Q T (mkF m pc Ls st) := by
  subst hp; exact Run.to (fun _ q => XS.aconstNull w.at w.hx rfl hd q) k
theorem s_iload (w : Wk p l e R s m args below meth c Z EL own h0 ws T h cells slots S) {i : Nat} {v : Int32} (hd : decode c.code pc = .ok (.iload i, 2)) (hl : Ls[i]? = some (.val (.int v))) (hp : pc + 2 = pc') (k : Run p e below Q T (mkF m pc' Ls (.int v :: st))) : Run p e below Q T (mkF m pc Ls st) := by
  subst hp; exact Run.to (fun _ q => XS.iload w.at w.hx rfl hd hl q) k
theorem s_iload_n (w : Wk p l e R s m args below meth c Z EL own h0 ws T h cells slots S) {i : Fin 4} {v : Int32} (hd : decode c.code pc = .ok (.iload_n i, 1)) (hl : Ls[i.val]? = some (.val (.int v))) (hp : pc + 1 = pc') (k : Run p e below Q T (mkF m pc' Ls (.int v :: st))) : Run p e below Q T (mkF m pc Ls st) := by
  subst hp; exact Run.to (fun _ q => XS.iloadN w.at w.hx rfl hd hl q) k
theorem s_lload (w : Wk p l e R s m args below meth c Z EL own h0 ws T h cells slots S) {i : Nat} {v : Int64} (hd : decode c.code pc = .ok (.lload i, 2)) (hl : Ls[i]? = some (.val (.long v))) (hp : pc + 2 = pc') (k : Run p e below Q T (mkF m pc' Ls (.long v :: st))) : Run p e below Q T (mkF m pc Ls st) := by
  subst hp; exact Run.to (fun _ q => XT.lload w.at w.hx rfl hd hl q) k
theorem s_lload_n (w : Wk p l e R s m args below meth c Z EL own h0 ws T h cells slots S) {i : Fin 4} {v : Int64} (hd : decode c.code pc = .ok (.lload_n i, 1)) (hl : Ls[i.val]? = some (.val (.long v))) (hp : pc + 1 = pc') (k : Run p e below Q T (mkF m pc' Ls (.long v :: st))) : Run p e below Q T (mkF m pc Ls st) := by
  subst hp; exact Run.to (fun _ q => XT.lloadN w.at w.hx rfl hd hl q) k
theorem s_aload (w : Wk p l e R s m args below meth c Z EL own h0 ws T h cells slots S) {i : Nat} {v : Value} (hd : decode c.code pc = .ok (.aload i, 2)) (hl : Ls[i]? = some (.val v)) (hv : v.isRef = true) (hp : pc + 2 = pc') (k : Run p e below Q T (mkF m pc' Ls (v :: st))) : Run p e below Q T (mkF m pc Ls st) := by
  subst hp; exact Run.to (fun _ q => XS.aload w.at w.hx rfl hd hl hv q) k
theorem s_aload_n (w : Wk p l e R s m args below meth c Z EL own h0 ws T h cells slots S) {i : Fin 4} {v : Value} (hd : decode c.code pc = .ok (.aload_n i, 1)) (hl : Ls[i.val]? = some (.val v)) (hv : v.isRef = true) (hp : pc + 1 = pc') (k : Run p e below Q T (mkF m pc' Ls (v :: st))) : Run p e below Q T (mkF m pc Ls st) := by
  subst hp; exact Run.to (fun _ q => XS.aloadN w.at w.hx rfl hd hl hv q) k
theorem s_istore (w : Wk p l e R s m args below meth c Z EL own h0 ws T h cells slots S) {i : Nat} {v : Int32} (l' : Array Slot) (hd : decode c.code pc = .ok (.istore i, 2)) (hl : storeLocals Ls i (.int v) = some l') (hp : pc + 2 = pc') (k : Run p e below Q T (mkF m pc' l' st)) : Run p e below Q T (mkF m pc Ls (.int v :: st)) := by
  subst hp; exact Run.to (fun _ q => XS.istore w.at w.hx rfl hd rfl hl q) k
theorem s_istore_n (w : Wk p l e R s m args below meth c Z EL own h0 ws T h cells slots S) {i : Fin 4} {v : Int32} (l' : Array Slot) (hd : decode c.code pc = .ok (.istore_n i, 1)) (hl : storeLocals Ls i.val (.int v) = some l') (hp : pc + 1 = pc') (k : Run p e below Q T (mkF m pc' l' st)) : Run p e below Q T (mkF m pc Ls (.int v :: st)) := by
  subst hp; exact Run.to (fun _ q => XS.istoreN w.at w.hx rfl hd rfl hl q) k
theorem s_lstore (w : Wk p l e R s m args below meth c Z EL own h0 ws T h cells slots S) {i : Nat} {v : Int64} (l' : Array Slot) (hd : decode c.code pc = .ok (.lstore i, 2)) (hl : storeLocals Ls i (.long v) = some l') (hp : pc + 2 = pc') (k : Run p e below Q T (mkF m pc' l' st)) : Run p e below Q T (mkF m pc Ls (.long v :: st)) := by
  subst hp; exact Run.to (fun _ q => XT.lstore w.at w.hx rfl hd rfl hl q) k
theorem s_lstore_n (w : Wk p l e R s m args below meth c Z EL own h0 ws T h cells slots S) {i : Fin 4} {v : Int64} (l' : Array Slot) (hd : decode c.code pc = .ok (.lstore_n i, 1)) (hl : storeLocals Ls i.val (.long v) = some l') (hp : pc + 1 = pc') (k : Run p e below Q T (mkF m pc' l' st)) : Run p e below Q T (mkF m pc Ls (.long v :: st)) := by
  subst hp; exact Run.to (fun _ q => XT.lstoreN w.at w.hx rfl hd rfl hl q) k
theorem s_astore (w : Wk p l e R s m args below meth c Z EL own h0 ws T h cells slots S) {i : Nat} {v : Value} (l' : Array Slot) (hd : decode c.code pc = .ok (.astore i, 2)) (hv : v.isRef = true) (hl : storeLocals Ls i v = some l') (hp : pc + 2 = pc') (k : Run p e below Q T (mkF m pc' l' st)) : Run p e below Q T (mkF m pc Ls (v :: st)) := by
  subst hp; exact Run.to (fun _ q => XS.astore w.at w.hx rfl hd rfl hv hl q) k
theorem s_astore_n (w : Wk p l e R s m args below meth c Z EL own h0 ws T h cells slots S) {i : Fin 4} {v : Value} (l' : Array Slot) (hd : decode c.code pc = .ok (.astore_n i, 1)) (hv : v.isRef = true) (hl : storeLocals Ls i.val v = some l') (hp : pc + 1 = pc') (k : Run p e below Q T (mkF m pc' l' st)) : Run p e below Q T (mkF m pc Ls (v :: st)) := by
  subst hp; exact Run.to (fun _ q => XS.astoreN w.at w.hx rfl hd rfl hv hl q) k
theorem s_iinc (w : Wk p l e R s m args below meth c Z EL own h0 ws T h cells slots S) {i : Nat} {cst : Int} {x v : Int32} (l' : Array Slot) (hd : decode c.code pc = .ok (.iinc i cst, 3)) (hv : Int32.ofInt cst = v) (hl : Ls[i]? = some (.val (.int x))) (hl' : storeLocals Ls i (.int (x + v)) = some l') (hp : pc + 3 = pc') (k : Run p e below Q T (mkF m pc' l' st)) : Run p e below Q T (mkF m pc Ls st) := by
  subst hp; exact Run.to (fun _ q => XT.iincV w.at w.hx rfl v hd hv hl hl' q) k
theorem s_goto (w : Wk p l e R s m args below meth c Z EL own h0 ws T h cells slots S) {o : Int} (hd : decode c.code pc = .ok (.goto o, 3)) (ho : 0 ≤ (pc : Int) + o) (hp : ((pc : Int) + o).toNat = pc') (k : Run p e below Q T (mkF m pc' Ls st)) : Run p e below Q T (mkF m pc Ls st) := by
  exact Run.to (fun _ q => XS.goto w.at w.hx rfl (pc0 := pc) rfl hd ho hp q) k
theorem s_icmp_eq (w : Wk p l e R s m args below meth c Z EL own h0 ws T h cells slots S) {x y : Int32} {o : Int} (hd : decode c.code pc = .ok (.if_icmp .eq o, 3)) (ho : 0 ≤ (pc : Int) + o) (h1 : pc + 3 = pc1) (h2 : ((pc : Int) + o).toNat = pc2) (k1 : ¬ (x = y) → Run p e below Q T (mkF m pc1 Ls rest)) (k2 : x = y → Run p e below Q T (mkF m pc2 Ls rest)) : Run p e below Q T (mkF m pc Ls (.int y :: .int x :: rest)) := by
  subst h1
  by_cases cq : x = y
  · exact Run.to (fun _ q => XS.icmpYes w.at w.hx rfl (pc0 := pc) rfl hd rfl (XT.ii_eq_t cq) ho h2 q) (k2 cq)
  · exact Run.to (fun _ q => XS.icmpNo w.at w.hx rfl hd rfl (XT.ii_eq_f cq) q) (k1 cq)
theorem s_icmp_ne (w : Wk p l e R s m args below meth c Z EL own h0 ws T h cells slots S) {x y : Int32} {o : Int} (hd : decode c.code pc = .ok (.if_icmp .ne o, 3)) (ho : 0 ≤ (pc : Int) + o) (h1 : pc + 3 = pc1) (h2 : ((pc : Int) + o).toNat = pc2) (k1 : x = y → Run p e below Q T (mkF m pc1 Ls rest)) (k2 : ¬ (x = y) → Run p e below Q T (mkF m pc2 Ls rest)) : Run p e below Q T (mkF m pc Ls (.int y :: .int x :: rest)) := by
  subst h1
  by_cases cq : x = y
  · exact Run.to (fun _ q => XS.icmpNo w.at w.hx rfl hd rfl (XT.ii_ne_f cq) q) (k1 cq)
  · exact Run.to (fun _ q => XS.icmpYes w.at w.hx rfl (pc0 := pc) rfl hd rfl (XT.ii_ne_t cq) ho h2 q) (k2 cq)
theorem s_icmp_lt (w : Wk p l e R s m args below meth c Z EL own h0 ws T h cells slots S) {x y : Int32} {o : Int} (hd : decode c.code pc = .ok (.if_icmp .lt o, 3)) (ho : 0 ≤ (pc : Int) + o) (h1 : pc + 3 = pc1) (h2 : ((pc : Int) + o).toNat = pc2) (k1 : ¬ (x < y) → Run p e below Q T (mkF m pc1 Ls rest)) (k2 : x < y → Run p e below Q T (mkF m pc2 Ls rest)) : Run p e below Q T (mkF m pc Ls (.int y :: .int x :: rest)) := by
  subst h1
  by_cases cq : x < y
  · exact Run.to (fun _ q => XS.icmpYes w.at w.hx rfl (pc0 := pc) rfl hd rfl (XT.ii_lt_t cq) ho h2 q) (k2 cq)
  · exact Run.to (fun _ q => XS.icmpNo w.at w.hx rfl hd rfl (XT.ii_lt_f cq) q) (k1 cq)
theorem s_icmp_ge (w : Wk p l e R s m args below meth c Z EL own h0 ws T h cells slots S) {x y : Int32} {o : Int} (hd : decode c.code pc = .ok (.if_icmp .ge o, 3)) (ho : 0 ≤ (pc : Int) + o) (h1 : pc + 3 = pc1) (h2 : ((pc : Int) + o).toNat = pc2) (k1 : x < y → Run p e below Q T (mkF m pc1 Ls rest)) (k2 : ¬ (x < y) → Run p e below Q T (mkF m pc2 Ls rest)) : Run p e below Q T (mkF m pc Ls (.int y :: .int x :: rest)) := by
  subst h1
  by_cases cq : x < y
  · exact Run.to (fun _ q => XS.icmpNo w.at w.hx rfl hd rfl (XT.ii_ge_f cq) q) (k1 cq)
  · exact Run.to (fun _ q => XS.icmpYes w.at w.hx rfl (pc0 := pc) rfl hd rfl (XT.ii_ge_t cq) ho h2 q) (k2 cq)
theorem s_icmp_gt (w : Wk p l e R s m args below meth c Z EL own h0 ws T h cells slots S) {x y : Int32} {o : Int} (hd : decode c.code pc = .ok (.if_icmp .gt o, 3)) (ho : 0 ≤ (pc : Int) + o) (h1 : pc + 3 = pc1) (h2 : ((pc : Int) + o).toNat = pc2) (k1 : ¬ (y < x) → Run p e below Q T (mkF m pc1 Ls rest)) (k2 : y < x → Run p e below Q T (mkF m pc2 Ls rest)) : Run p e below Q T (mkF m pc Ls (.int y :: .int x :: rest)) := by
  subst h1
  by_cases cq : y < x
  · exact Run.to (fun _ q => XS.icmpYes w.at w.hx rfl (pc0 := pc) rfl hd rfl (XT.ii_gt_t cq) ho h2 q) (k2 cq)
  · exact Run.to (fun _ q => XS.icmpNo w.at w.hx rfl hd rfl (XT.ii_gt_f cq) q) (k1 cq)
theorem s_icmp_le (w : Wk p l e R s m args below meth c Z EL own h0 ws T h cells slots S) {x y : Int32} {o : Int} (hd : decode c.code pc = .ok (.if_icmp .le o, 3)) (ho : 0 ≤ (pc : Int) + o) (h1 : pc + 3 = pc1) (h2 : ((pc : Int) + o).toNat = pc2) (k1 : y < x → Run p e below Q T (mkF m pc1 Ls rest)) (k2 : ¬ (y < x) → Run p e below Q T (mkF m pc2 Ls rest)) : Run p e below Q T (mkF m pc Ls (.int y :: .int x :: rest)) := by
  subst h1
  by_cases cq : y < x
  · exact Run.to (fun _ q => XS.icmpNo w.at w.hx rfl hd rfl (XT.ii_le_f cq) q) (k1 cq)
  · exact Run.to (fun _ q => XS.icmpYes w.at w.hx rfl (pc0 := pc) rfl hd rfl (XT.ii_le_t cq) ho h2 q) (k2 cq)
theorem s_if_eq (w : Wk p l e R s m args below meth c Z EL own h0 ws T h cells slots S) {x : Int32} {o : Int} (hd : decode c.code pc = .ok (.ifCond .eq o, 3)) (ho : 0 ≤ (pc : Int) + o) (h1 : pc + 3 = pc1) (h2 : ((pc : Int) + o).toNat = pc2) (k1 : ¬ (x = 0) → Run p e below Q T (mkF m pc1 Ls rest)) (k2 : x = 0 → Run p e below Q T (mkF m pc2 Ls rest)) : Run p e below Q T (mkF m pc Ls (.int x :: rest)) := by
  subst h1
  by_cases cq : x = 0
  · exact Run.to (fun _ q => XS.ifYes w.at w.hx rfl (pc0 := pc) rfl hd rfl (XT.i0_eq_t cq) ho h2 q) (k2 cq)
  · exact Run.to (fun _ q => XS.ifNo w.at w.hx rfl hd rfl (XT.i0_eq_f cq) q) (k1 cq)
theorem s_if_ne (w : Wk p l e R s m args below meth c Z EL own h0 ws T h cells slots S) {x : Int32} {o : Int} (hd : decode c.code pc = .ok (.ifCond .ne o, 3)) (ho : 0 ≤ (pc : Int) + o) (h1 : pc + 3 = pc1) (h2 : ((pc : Int) + o).toNat = pc2) (k1 : x = 0 → Run p e below Q T (mkF m pc1 Ls rest)) (k2 : ¬ (x = 0) → Run p e below Q T (mkF m pc2 Ls rest)) : Run p e below Q T (mkF m pc Ls (.int x :: rest)) := by
  subst h1
  by_cases cq : x = 0
  · exact Run.to (fun _ q => XS.ifNo w.at w.hx rfl hd rfl (XT.i0_ne_f cq) q) (k1 cq)
  · exact Run.to (fun _ q => XS.ifYes w.at w.hx rfl (pc0 := pc) rfl hd rfl (XT.i0_ne_t cq) ho h2 q) (k2 cq)
theorem s_if_lt (w : Wk p l e R s m args below meth c Z EL own h0 ws T h cells slots S) {x : Int32} {o : Int} (hd : decode c.code pc = .ok (.ifCond .lt o, 3)) (ho : 0 ≤ (pc : Int) + o) (h1 : pc + 3 = pc1) (h2 : ((pc : Int) + o).toNat = pc2) (k1 : ¬ (x < 0) → Run p e below Q T (mkF m pc1 Ls rest)) (k2 : x < 0 → Run p e below Q T (mkF m pc2 Ls rest)) : Run p e below Q T (mkF m pc Ls (.int x :: rest)) := by
  subst h1
  by_cases cq : x < 0
  · exact Run.to (fun _ q => XS.ifYes w.at w.hx rfl (pc0 := pc) rfl hd rfl (XT.i0_lt_t cq) ho h2 q) (k2 cq)
  · exact Run.to (fun _ q => XS.ifNo w.at w.hx rfl hd rfl (XT.i0_lt_f cq) q) (k1 cq)
theorem s_if_ge (w : Wk p l e R s m args below meth c Z EL own h0 ws T h cells slots S) {x : Int32} {o : Int} (hd : decode c.code pc = .ok (.ifCond .ge o, 3)) (ho : 0 ≤ (pc : Int) + o) (h1 : pc + 3 = pc1) (h2 : ((pc : Int) + o).toNat = pc2) (k1 : x < 0 → Run p e below Q T (mkF m pc1 Ls rest)) (k2 : ¬ (x < 0) → Run p e below Q T (mkF m pc2 Ls rest)) : Run p e below Q T (mkF m pc Ls (.int x :: rest)) := by
  subst h1
  by_cases cq : x < 0
  · exact Run.to (fun _ q => XS.ifNo w.at w.hx rfl hd rfl (XT.i0_ge_f cq) q) (k1 cq)
  · exact Run.to (fun _ q => XS.ifYes w.at w.hx rfl (pc0 := pc) rfl hd rfl (XT.i0_ge_t cq) ho h2 q) (k2 cq)
theorem s_if_gt (w : Wk p l e R s m args below meth c Z EL own h0 ws T h cells slots S) {x : Int32} {o : Int} (hd : decode c.code pc = .ok (.ifCond .gt o, 3)) (ho : 0 ≤ (pc : Int) + o) (h1 : pc + 3 = pc1) (h2 : ((pc : Int) + o).toNat = pc2) (k1 : ¬ (0 < x) → Run p e below Q T (mkF m pc1 Ls rest)) (k2 : 0 < x → Run p e below Q T (mkF m pc2 Ls rest)) : Run p e below Q T (mkF m pc Ls (.int x :: rest)) := by
  subst h1
  by_cases cq : 0 < x
  · exact Run.to (fun _ q => XS.ifYes w.at w.hx rfl (pc0 := pc) rfl hd rfl (XT.i0_gt_t cq) ho h2 q) (k2 cq)
  · exact Run.to (fun _ q => XS.ifNo w.at w.hx rfl hd rfl (XT.i0_gt_f cq) q) (k1 cq)
theorem s_if_le (w : Wk p l e R s m args below meth c Z EL own h0 ws T h cells slots S) {x : Int32} {o : Int} (hd : decode c.code pc = .ok (.ifCond .le o, 3)) (ho : 0 ≤ (pc : Int) + o) (h1 : pc + 3 = pc1) (h2 : ((pc : Int) + o).toNat = pc2) (k1 : 0 < x → Run p e below Q T (mkF m pc1 Ls rest)) (k2 : ¬ (0 < x) → Run p e below Q T (mkF m pc2 Ls rest)) : Run p e below Q T (mkF m pc Ls (.int x :: rest)) := by
  subst h1
  by_cases cq : 0 < x
  · exact Run.to (fun _ q => XS.ifNo w.at w.hx rfl hd rfl (XT.i0_le_f cq) q) (k1 cq)
  · exact Run.to (fun _ q => XS.ifYes w.at w.hx rfl (pc0 := pc) rfl hd rfl (XT.i0_le_t cq) ho h2 q) (k2 cq)
theorem s_lif_eq (w : Wk p l e R s m args below meth c Z EL own h0 ws T h cells slots S) {x y : Int64} {o : Int} (hd : decode c.code pc = .ok (.ifCond .eq o, 3)) (ho : 0 ≤ (pc : Int) + o) (h1 : pc + 3 = pc1) (h2 : ((pc : Int) + o).toNat = pc2) (k1 : ¬ (x = y) → Run p e below Q T (mkF m pc1 Ls rest)) (k2 : x = y → Run p e below Q T (mkF m pc2 Ls rest)) : Run p e below Q T (mkF m pc Ls (.int (XT.cmpL x y) :: rest)) := by
  subst h1
  by_cases cq : x = y
  · exact Run.to (fun _ q => XS.ifYes w.at w.hx rfl (pc0 := pc) rfl hd rfl (XT.ll_eq_t cq) ho h2 q) (k2 cq)
  · exact Run.to (fun _ q => XS.ifNo w.at w.hx rfl hd rfl (XT.ll_eq_f cq) q) (k1 cq)
theorem s_lif_ne (w : Wk p l e R s m args below meth c Z EL own h0 ws T h cells slots S) {x y : Int64} {o : Int} (hd : decode c.code pc = .ok (.ifCond .ne o, 3)) (ho : 0 ≤ (pc : Int) + o) (h1 : pc + 3 = pc1) (h2 : ((pc : Int) + o).toNat = pc2) (k1 : x = y → Run p e below Q T (mkF m pc1 Ls rest)) (k2 : ¬ (x = y) → Run p e below Q T (mkF m pc2 Ls rest)) : Run p e below Q T (mkF m pc Ls (.int (XT.cmpL x y) :: rest)) := by
  subst h1
  by_cases cq : x = y
  · exact Run.to (fun _ q => XS.ifNo w.at w.hx rfl hd rfl (XT.ll_ne_f cq) q) (k1 cq)
  · exact Run.to (fun _ q => XS.ifYes w.at w.hx rfl (pc0 := pc) rfl hd rfl (XT.ll_ne_t cq) ho h2 q) (k2 cq)
theorem s_lif_lt (w : Wk p l e R s m args below meth c Z EL own h0 ws T h cells slots S) {x y : Int64} {o : Int} (hd : decode c.code pc = .ok (.ifCond .lt o, 3)) (ho : 0 ≤ (pc : Int) + o) (h1 : pc + 3 = pc1) (h2 : ((pc : Int) + o).toNat = pc2) (k1 : ¬ (x < y) → Run p e below Q T (mkF m pc1 Ls rest)) (k2 : x < y → Run p e below Q T (mkF m pc2 Ls rest)) : Run p e below Q T (mkF m pc Ls (.int (XT.cmpL x y) :: rest)) := by
  subst h1
  by_cases cq : x < y
  · exact Run.to (fun _ q => XS.ifYes w.at w.hx rfl (pc0 := pc) rfl hd rfl (XT.ll_lt_t cq) ho h2 q) (k2 cq)
  · exact Run.to (fun _ q => XS.ifNo w.at w.hx rfl hd rfl (XT.ll_lt_f cq) q) (k1 cq)
theorem s_lif_ge (w : Wk p l e R s m args below meth c Z EL own h0 ws T h cells slots S) {x y : Int64} {o : Int} (hd : decode c.code pc = .ok (.ifCond .ge o, 3)) (ho : 0 ≤ (pc : Int) + o) (h1 : pc + 3 = pc1) (h2 : ((pc : Int) + o).toNat = pc2) (k1 : x < y → Run p e below Q T (mkF m pc1 Ls rest)) (k2 : ¬ (x < y) → Run p e below Q T (mkF m pc2 Ls rest)) : Run p e below Q T (mkF m pc Ls (.int (XT.cmpL x y) :: rest)) := by
  subst h1
  by_cases cq : x < y
  · exact Run.to (fun _ q => XS.ifNo w.at w.hx rfl hd rfl (XT.ll_ge_f cq) q) (k1 cq)
  · exact Run.to (fun _ q => XS.ifYes w.at w.hx rfl (pc0 := pc) rfl hd rfl (XT.ll_ge_t cq) ho h2 q) (k2 cq)
theorem s_lif_gt (w : Wk p l e R s m args below meth c Z EL own h0 ws T h cells slots S) {x y : Int64} {o : Int} (hd : decode c.code pc = .ok (.ifCond .gt o, 3)) (ho : 0 ≤ (pc : Int) + o) (h1 : pc + 3 = pc1) (h2 : ((pc : Int) + o).toNat = pc2) (k1 : ¬ (y < x) → Run p e below Q T (mkF m pc1 Ls rest)) (k2 : y < x → Run p e below Q T (mkF m pc2 Ls rest)) : Run p e below Q T (mkF m pc Ls (.int (XT.cmpL x y) :: rest)) := by
  subst h1
  by_cases cq : y < x
  · exact Run.to (fun _ q => XS.ifYes w.at w.hx rfl (pc0 := pc) rfl hd rfl (XT.ll_gt_t cq) ho h2 q) (k2 cq)
  · exact Run.to (fun _ q => XS.ifNo w.at w.hx rfl hd rfl (XT.ll_gt_f cq) q) (k1 cq)
theorem s_lif_le (w : Wk p l e R s m args below meth c Z EL own h0 ws T h cells slots S) {x y : Int64} {o : Int} (hd : decode c.code pc = .ok (.ifCond .le o, 3)) (ho : 0 ≤ (pc : Int) + o) (h1 : pc + 3 = pc1) (h2 : ((pc : Int) + o).toNat = pc2) (k1 : y < x → Run p e below Q T (mkF m pc1 Ls rest)) (k2 : ¬ (y < x) → Run p e below Q T (mkF m pc2 Ls rest)) : Run p e below Q T (mkF m pc Ls (.int (XT.cmpL x y) :: rest)) := by
  subst h1
  by_cases cq : y < x
  · exact Run.to (fun _ q => XS.ifNo w.at w.hx rfl hd rfl (XT.ll_le_f cq) q) (k1 cq)
  · exact Run.to (fun _ q => XS.ifYes w.at w.hx rfl (pc0 := pc) rfl hd rfl (XT.ll_le_t cq) ho h2 q) (k2 cq)
theorem s_acmp_eq (w : Wk p l e R s m args below meth c Z EL own h0 ws T h cells slots S) {x y : Value} {o : Int} (hd : decode c.code pc = .ok (.if_acmp .eq o, 3)) (hx' : x.isRef = true) (hy' : y.isRef = true) (ho : 0 ≤ (pc : Int) + o) (h1 : pc + 3 = pc1) (h2 : ((pc : Int) + o).toNat = pc2) (k1 : ¬ (x = y) → Run p e below Q T (mkF m pc1 Ls rest)) (k2 : x = y → Run p e below Q T (mkF m pc2 Ls rest)) : Run p e below Q T (mkF m pc Ls (y :: x :: rest)) := by
  subst h1
  by_cases cq : x = y
  · exact Run.to (fun _ q => XT.acmpYes w.at w.hx rfl (pc0 := pc) rfl hd rfl hx' hy' (XT.aa_eq_t cq) ho h2 q) (k2 cq)
  · exact Run.to (fun _ q => XT.acmpNo w.at w.hx rfl hd rfl hx' hy' (XT.aa_eq_f cq) q) (k1 cq)
theorem s_acmp_ne (w : Wk p l e R s m args below meth c Z EL own h0 ws T h cells slots S) {x y : Value} {o : Int} (hd : decode c.code pc = .ok (.if_acmp .ne o, 3)) (hx' : x.isRef = true) (hy' : y.isRef = true) (ho : 0 ≤ (pc : Int) + o) (h1 : pc + 3 = pc1) (h2 : ((pc : Int) + o).toNat = pc2) (k1 : x = y → Run p e below Q T (mkF m pc1 Ls rest)) (k2 : ¬ (x = y) → Run p e below Q T (mkF m pc2 Ls rest)) : Run p e below Q T (mkF m pc Ls (y :: x :: rest)) := by
  subst h1
  by_cases cq : x = y
  · exact Run.to (fun _ q => XT.acmpNo w.at w.hx rfl hd rfl hx' hy' (XT.aa_ne_f cq) q) (k1 cq)
  · exact Run.to (fun _ q => XT.acmpYes w.at w.hx rfl (pc0 := pc) rfl hd rfl hx' hy' (XT.aa_ne_t cq) ho h2 q) (k2 cq)
theorem s_ifnull_no (w : Wk p l e R s m args below meth c Z EL own h0 ws T h cells slots S) {b : Addr} {o : Int} (hd : decode c.code pc = .ok (.ifnull o, 3)) (hp : pc + 3 = pc') (k : Run p e below Q T (mkF m pc' Ls rest)) : Run p e below Q T (mkF m pc Ls (.ref b :: rest)) := by
  subst hp; exact Run.to (fun _ q => XS.ifnullNo w.at w.hx rfl hd rfl q) k
theorem s_ifnull_yes (w : Wk p l e R s m args below meth c Z EL own h0 ws T h cells slots S) {o : Int} (hd : decode c.code pc = .ok (.ifnull o, 3)) (ho : 0 ≤ (pc : Int) + o) (hp : ((pc : Int) + o).toNat = pc') (k : Run p e below Q T (mkF m pc' Ls rest)) : Run p e below Q T (mkF m pc Ls (.null :: rest)) :=
  Run.to (fun _ q => XS.ifnullYes w.at w.hx rfl (pc0 := pc) rfl hd rfl ho hp q) k
theorem s_ifnonnull_yes (w : Wk p l e R s m args below meth c Z EL own h0 ws T h cells slots S) {b : Addr} {o : Int} (hd : decode c.code pc = .ok (.ifnonnull o, 3)) (ho : 0 ≤ (pc : Int) + o) (hp : ((pc : Int) + o).toNat = pc') (k : Run p e below Q T (mkF m pc' Ls rest)) : Run p e below Q T (mkF m pc Ls (.ref b :: rest)) :=
  Run.to (fun _ q => XT.ifnonnullYes w.at w.hx rfl (pc0 := pc) rfl hd rfl ho hp q) k
theorem s_ifnonnull_no (w : Wk p l e R s m args below meth c Z EL own h0 ws T h cells slots S) {o : Int} (hd : decode c.code pc = .ok (.ifnonnull o, 3)) (hp : pc + 3 = pc') (k : Run p e below Q T (mkF m pc' Ls rest)) : Run p e below Q T (mkF m pc Ls (.null :: rest)) := by
  subst hp; exact Run.to (fun _ q => XT.ifnonnullNo w.at w.hx rfl hd rfl q) k


/-! steps that read the tables or the heap -/
theorem w_getF (w : Wk p l e R s m args below meth c Z EL own h0 ws T h cells slots S) {R0 O n d : String} {index : Nat} (wl : (Jvm.Cond.fieldLink own index R0 n d).before a0 Z = true) (via : Via Z R0 O n d) {a : Addr} {v : Value} (F : Fld Z h a O n d v) (hd : decode c.code pc = .ok (.getfield index, 3)) (hp : pc + 3 = pc')
    (k : ∀ T', Wk p l e R s m args below meth c Z EL own h0 ws T' h cells slots S → Run p e below Q T' (mkF m pc' Ls (v :: rest))) : Run p e below Q T (mkF m pc Ls (.ref a :: rest)) := by
  obtain ⟨vm0, k0, locs, hx, X, eT, r⟩ := w
  obtain ⟨T', X', e', stp⟩ := getF X hx r.hZ (host := "") r.ow (Or.inl wl) via eT F (g := mkF m pc Ls (.ref a :: rest)) rfl rfl hd
  subst hp
  exact Run.to stp (k T' ⟨vm0, k0, locs, hx, X', e', r⟩)
theorem w_getS (w : Wk p l e R s m args below meth c Z EL own h0 ws T h cells slots S) {R0 O n d : String} {index : Nat} (wl : (Jvm.Cond.fieldLink own index R0 n d).before a0 Z = true) (via : Via Z R0 O n d) {v : Value} (F : Sta Z h O n d v) (hd : decode c.code pc = .ok (.getstatic index, 3)) (hp : pc + 3 = pc')
    (k : ∀ T', Wk p l e R s m args below meth c Z EL own h0 ws T' h cells slots S → Run p e below Q T' (mkF m pc' Ls (v :: st))) : Run p e below Q T (mkF m pc Ls st) := by
  obtain ⟨vm0, k0, locs, hx, X, eT, r⟩ := w
  obtain ⟨T', X', e', stp⟩ := getS (host := "") X hx r.hZ r.ow wl via eT F (g := mkF m pc Ls st) rfl hd
  subst hp
  exact Run.to stp (k T' ⟨vm0, k0, locs, hx, X', e', r⟩)
theorem w_cast (w : Wk p l e R s m args below meth c Z EL own h0 ws T h cells slots S) {K : String} {index : Nat} (wl : (Jvm.Cond.classLink own index K).before a0 Z = true) {a : Addr} (F : Ins Z h a K true) (hd : decode c.code pc = .ok (.checkcast index, 3)) (hp : pc + 3 = pc')
    (k : ∀ T', Wk p l e R s m args below meth c Z EL own h0 ws T' h cells slots S → Run p e below Q T' (mkF m pc' Ls (.ref a :: rest))) : Run p e below Q T (mkF m pc Ls (.ref a :: rest)) := by
  obtain ⟨vm0, k0, locs, hx, X, eT, r⟩ := w
  obtain ⟨T', X', e', stp⟩ := castY X hx r.hZ r.ow wl eT F (g := mkF m pc Ls (.ref a :: rest)) rfl rfl hd
  subst hp
  exact Run.to stp (k T' ⟨vm0, k0, locs, hx, X', e', r⟩)
theorem w_inst (w : Wk p l e R s m args below meth c Z EL own h0 ws T h cells slots S) {K : String} {index : Nat} (wl : (Jvm.Cond.classLink own index K).before a0 Z = true) {a : Addr} (F : Ins Z h a K true) (hd : decode c.code pc = .ok (.instanceof index, 3)) (hp : pc + 3 = pc')
    (k : ∀ T', Wk p l e R s m args below meth c Z EL own h0 ws T' h cells slots S → Run p e below Q T' (mkF m pc' Ls (.int 1 :: rest))) : Run p e below Q T (mkF m pc Ls (.ref a :: rest)) := by
  obtain ⟨vm0, k0, locs, hx, X, eT, r⟩ := w
  obtain ⟨T', X', e', stp⟩ := instY X hx r.hZ r.ow wl eT F (g := mkF m pc Ls (.ref a :: rest)) rfl rfl hd
  subst hp
  exact Run.to stp (k T' ⟨vm0, k0, locs, hx, X', e', r⟩)
theorem w_instNo (w : Wk p l e R s m args below meth c Z EL own h0 ws T h cells slots S) {K C : String} {index : Nat} (wl : (Jvm.Cond.classLink own index K).before a0 Z = true) {a : Addr} (E : Exa Z h a C) (F : ∃ c t, Z.vm.findClass C = some c ∧ Z.vm.findClass K = some t ∧ Z.vm.assignable c t = false) (hd : decode c.code pc = .ok (.instanceof index, 3)) (hp : pc + 3 = pc')
    (k : ∀ T', Wk p l e R s m args below meth c Z EL own h0 ws T' h cells slots S → Run p e below Q T' (mkF m pc' Ls (.int 0 :: rest))) : Run p e below Q T (mkF m pc Ls (.ref a :: rest)) := by
  obtain ⟨vm0, k0, locs, hx, X, eT, r⟩ := w
  obtain ⟨T', X', e', stp⟩ := instNo X hx r.hZ r.ow wl eT E F (g := mkF m pc Ls (.ref a :: rest)) rfl rfl hd
  subst hp
  exact Run.to stp (k T' ⟨vm0, k0, locs, hx, X', e', r⟩)
theorem w_instNull (w : Wk p l e R s m args below meth c Z EL own h0 ws T h cells slots S) {index : Nat} (hd : decode c.code pc = .ok (.instanceof index, 3)) (hp : pc + 3 = pc') (k : Run p e below Q T (mkF m pc' Ls (.int 0 :: rest))) : Run p e below Q T (mkF m pc Ls (.null :: rest)) := by
  obtain ⟨vm0, k0, locs, hx, X, eT, r⟩ := w
  subst hp
  exact Run.to (X.instanceofNull hx (g := mkF m pc Ls (.null :: rest)) rfl rfl hd) k
theorem w_castNull (w : Wk p l e R s m args below meth c Z EL own h0 ws T h cells slots S) {index : Nat} (hd : decode c.code pc = .ok (.checkcast index, 3)) (hp : pc + 3 = pc') (k : Run p e below Q T (mkF m pc' Ls (.null :: rest))) : Run p e below Q T (mkF m pc Ls (.null :: rest)) := by
  obtain ⟨vm0, k0, locs, hx, X, eT, r⟩ := w
  subst hp
  exact Run.to (X.checkcastNull hx (g := mkF m pc Ls (.null :: rest)) rfl rfl hd) k
theorem w_new (w : Wk p l e R s m args below meth c Z EL own h0 ws T h cells slots S) {C : String} {index n : Nat} (wl : (Jvm.Cond.classLink own index C).before a0 Z = true) (wi : (Jvm.Cond.instantiable C n).before a0 Z = true) (wz : (Jvm.Cond.initialized C).before a0 Z = true) (hd : decode c.code pc = .ok (.new index, 3)) (hp : pc + 3 = pc') (hc : cells + 1 ≤ R.cells) (hl : slots + n ≤ R.slots)
    (k : ∀ T' h' x, Wk p l e R s m args below meth c Z EL own h0 ws T' h' (cells + 1) (slots + n) (x :: S) → Ext h h' → h.size ≤ x → h0.size ≤ x → Exa Z h' x C → (∀ {O nm d : String} {ty : FieldType}, Laid Z a0 C O nm d → parseFieldDescriptor d = some ty → Fld Z h' x O nm d (defaultValue ty)) → Run p e below Q T' (mkF m pc' Ls (.ref x :: st))) : Run p e below Q T (mkF m pc Ls st) := by
  obtain ⟨vm0, k0, locs, hx, X, eT, r⟩ := w
  obtain ⟨T', h', X', e', E, A, D, -, stp⟩ := newO X hx r.hZ r.ow wl wi wz eT (g := mkF m pc Ls st) rfl hd hc hl
  subst hp
  exact Run.to stp (k T' h' h.size ⟨vm0, k0, locs, hx, X', e', r.add E (Nat.le_refl _) A.lt⟩ E (Nat.le_refl _) r.keep.1 A D)
/-- a new array of a primitive kind: its n places hold their first value -/
theorem w_newP (w : Wk p l e R s m args below meth c Z EL own h0 ws T h cells slots S) {aty : ArrayType} {ty : FieldType} {z : Int32} {n : Nat} {dv : Value} (wl : (Jvm.Cond.arrayClass ty).before a0 Z = true) (hty : newarray.typeOf aty = ty) (hdv : defaultValue ty = dv) (hd : decode c.code pc = .ok (.newarray aty, 2)) (hz : ¬ z < 0) (hn : z.toNatClampNeg ≤ n) (hb : n * 8 ≤ 536870912) (hp : pc + 2 = pc') (hc : cells + 1 ≤ R.cells) (hl : slots + n ≤ R.slots)
    (k : ∀ T' h' x ka, Wk p l e R s m args below meth c Z EL own h0 ws T' h' (cells + 1) (slots + n) (x :: S) → Ext h h' → h.size ≤ x → h0.size ≤ x → Arv Z h' x ka ty z (List.replicate n dv) dv → Run p e below Q T' (mkF m pc' Ls (.ref x :: rest))) : Run p e below Q T (mkF m pc Ls (.int z :: rest)) := by
  obtain ⟨vm0, k0, locs, hx, X, eT, r⟩ := w
  subst hty hdv hp
  obtain ⟨T', h', kA, X', e', E, A, stp⟩ := newP X hx r.hZ wl eT (g := mkF m pc Ls (.int z :: rest)) rfl hd rfl hz hn hb hc hl
  have V := (Arv.new A hz).pad (pad_rep [] _ n)
  exact Run.to stp (k T' h' h.size kA ⟨vm0, k0, locs, hx, X', e', r.add E (Nat.le_refl _) A.lt⟩ E (Nat.le_refl _) r.keep.1 V)
theorem w_stC (w : Wk p l e R s m args below meth c Z EL own h0 ws T h cells slots S) {a : Addr} {ka : ClassId} {z j x x' : Int32} {vs : List Value} {dv : Value} (V : Arv Z h a ka .char z vs dv) {i : Nat} (hj : ¬ j < 0) (hi : j.toNatClampNeg = i) (hiz : i < z.toNatClampNeg) (hiv : i < vs.length) (hx' : nar .char x = x') (hd : decode c.code pc = .ok (.castore, 1)) (q : a ∈ ws ∨ h0.size ≤ a) (hp : pc + 1 = pc')
    (k : ∀ T' h', Wk p l e R s m args below meth c Z EL own h0 ws T' h' cells slots S → Wr h h' a i (.int x') → Arv Z h' a ka .char z (vs.set i (.int x')) dv → Run p e below Q T' (mkF m pc' Ls rest)) : Run p e below Q T (mkF m pc Ls (.int x :: .int j :: .ref a :: rest)) := by
  obtain ⟨vm0, k0, locs, hx, X, eT, r⟩ := w
  obtain ⟨cl, A, q1, q2, q3, q4, q5⟩ := V
  have hin : ¬ (j < 0 ∨ cl.slots.size ≤ j.toNatClampNeg) := by rw [q2, hi]; rintro (z | z); exact hj z; omega
  obtain ⟨T', h', X', e', Wq, stp⟩ := stC X hx r.hZ eT A hin (g := mkF m pc Ls (.int x :: .int j :: .ref a :: rest)) rfl rfl hd
  subst hp hx'
  have V' := Arv.set A q1 q2 q3 q4 q5 (fits_nar_char x) Wq i hi hiv
  rw [hi] at Wq
  have r' := r.wr Wq (Safe.arr r.hZ.alike A (by decide)) q
  rw [hi] at X'
  exact Run.to stp (k T' h' ⟨vm0, k0, _, hx, X', e', r'⟩ Wq V')
theorem w_stB (w : Wk p l e R s m args below meth c Z EL own h0 ws T h cells slots S) {a : Addr} {ka : ClassId} {z j x x' : Int32} {vs : List Value} {dv : Value} (V : Arv Z h a ka .byte z vs dv) {i : Nat} (hj : ¬ j < 0) (hi : j.toNatClampNeg = i) (hiz : i < z.toNatClampNeg) (hiv : i < vs.length) (hx' : nar .byte x = x') (hd : decode c.code pc = .ok (.bastore, 1)) (q : a ∈ ws ∨ h0.size ≤ a) (hS : a ∈ S) (hp : pc + 1 = pc')
    (k : ∀ T' h', Wk p l e R s m args below meth c Z EL own h0 ws T' h' cells slots S → Wr h h' a i (.int x') → Arv Z h' a ka .byte z (vs.set i (.int x')) dv → Run p e below Q T' (mkF m pc' Ls rest)) : Run p e below Q T (mkF m pc Ls (.int x :: .int j :: .ref a :: rest)) := by
  obtain ⟨vm0, k0, locs, hx, X, eT, r⟩ := w
  obtain ⟨cl, A, q1, q2, q3, q4, q5⟩ := V
  have hin : ¬ (j < 0 ∨ cl.slots.size ≤ j.toNatClampNeg) := by rw [q2, hi]; rintro (z | z); exact hj z; omega
  obtain ⟨T', h', X', e', Wq, stp⟩ := stB X hx r.hZ eT A hin (g := mkF m pc Ls (.int x :: .int j :: .ref a :: rest)) rfl rfl hd
  subst hp hx'
  have V' := Arv.set A q1 q2 q3 q4 q5 (fits_nar_byte x) Wq i hi hiv
  rw [hi] at Wq
  have r' := r.wr Wq (r.2.2.2.2.2.2.2.2.2 a hS).2 q
  rw [hi] at X'
  exact Run.to stp (k T' h' ⟨vm0, k0, _, hx, X', e', r'⟩ Wq V')
theorem w_len (w : Wk p l e R s m args below meth c Z EL own h0 ws T h cells slots S) {a : Addr} {ka : ClassId} {ty : FieldType} {z : Int32} {vs : List Value} {dv : Value} (V : Arv Z h a ka ty z vs dv) (hd : decode c.code pc = .ok (.arraylength, 1)) (hp : pc + 1 = pc')
    (k : Run p e below Q T (mkF m pc' Ls (.int z :: rest))) : Run p e below Q T (mkF m pc Ls (.ref a :: rest)) := by
  obtain ⟨vm0, k0, locs, hx, X, eT, r⟩ := w
  obtain ⟨cl, A, q1, q2, q3, q4, q5⟩ := V
  subst hp
  rw [← len_of q2 q3] at k
  exact Run.to (X.arraylength hx (by rw [eT]; exact A.1) (State.isArrayOf_alike r.hZ.alike A.2.1) (g := mkF m pc Ls (.ref a :: rest)) rfl rfl hd) k
theorem w_ldC (w : Wk p l e R s m args below meth c Z EL own h0 ws T h cells slots S) {a : Addr} {ka : ClassId} {z j : Int32} {vs : List Value} {dv v : Value} (V : Arv Z h a ka .char z vs dv) {i : Nat} (hj : ¬ j < 0) (hi : j.toNatClampNeg = i) (hiz : i < z.toNatClampNeg) (hv : vs.getD i dv = v) (hd : decode c.code pc = .ok (.caload, 1)) (hp : pc + 1 = pc')
    (k : Run p e below Q T (mkF m pc' Ls (v :: rest))) : Run p e below Q T (mkF m pc Ls (.int j :: .ref a :: rest)) := by
  obtain ⟨vm0, k0, locs, hx, X, eT, r⟩ := w
  obtain ⟨cl, A, q1, q2, q3, q4, q5⟩ := V
  have hin : ¬ (j < 0 ∨ cl.slots.size ≤ j.toNatClampNeg) := by rw [q2, hi]; rintro (z | z); exact hj z; omega
  subst hp
  exact Run.to (X.caload hx (j := j) (v := v) (by rw [eT]; exact A.1) (State.isArrayOf_alike r.hZ.alike A.2.1) A.2.2 hin (q4.at hin (by rw [hi]; exact hv)) (g := mkF m pc Ls (.int j :: .ref a :: rest)) rfl rfl hd) k
theorem w_ldB (w : Wk p l e R s m args below meth c Z EL own h0 ws T h cells slots S) {a : Addr} {ka : ClassId} {z j : Int32} {vs : List Value} {dv v : Value} (V : Arv Z h a ka .byte z vs dv) {i : Nat} (hj : ¬ j < 0) (hi : j.toNatClampNeg = i) (hiz : i < z.toNatClampNeg) (hv : vs.getD i dv = v) (hd : decode c.code pc = .ok (.baload, 1)) (hp : pc + 1 = pc')
    (k : Run p e below Q T (mkF m pc' Ls (v :: rest))) : Run p e below Q T (mkF m pc Ls (.int j :: .ref a :: rest)) := by
  obtain ⟨vm0, k0, locs, hx, X, eT, r⟩ := w
  obtain ⟨cl, A, q1, q2, q3, q4, q5⟩ := V
  have hin : ¬ (j < 0 ∨ cl.slots.size ≤ j.toNatClampNeg) := by rw [q2, hi]; rintro (z | z); exact hj z; omega
  subst hp
  exact Run.to (X.baloadBytes hx (j := j) (v := v) (by rw [eT]; exact A.1) (State.isArrayOf_alike r.hZ.alike A.2.1) A.2.2 hin (q4.at hin (by rw [hi]; exact hv)) (g := mkF m pc Ls (.int j :: .ref a :: rest)) rfl rfl hd) k
/-- putfield: into an object that no constant books (by its class, or one of S) -/
theorem w_putF (w : Wk p l e R s m args below meth c Z EL own h0 ws T h cells slots S) {R0 O n d C : String} {index kk : Nat} {ty : FieldType} (wl : (Jvm.Cond.fieldLink own index R0 n d).before a0 Z = true) (via : Via Z R0 O n d) {a : Addr} {v old : Value} (F : Fld Z h a O n d old) (E : Exa Z h a C) (L : (Jvm.Cond.lays C O n d).before a0 Z = true ∨ ((Jvm.Cond.laysFinal C O n d).before a0 Z = true ∧ own = O ∧ meth.name = "<init>")) (wi : (Jvm.Cond.instantiable C kk).before a0 Z = true)
    (hty : parseFieldDescriptor d = some ty) (hn : narrow ty v = v) (hf : fits ty v = true) (hd : decode c.code pc = .ok (.putfield index, 3)) (q : a ∈ ws ∨ h0.size ≤ a) (hS : (C ≠ "java/lang/String" ∧ C ≠ "[B") ∨ a ∈ S) (hp : pc + 3 = pc')
    (k : ∀ T' h', Wk p l e R s m args below meth c Z EL own h0 ws T' h' cells slots S → Wr h h' a (Jvm.RoadKit.slotOf Z O n d) v → Fld Z h' a O n d v → Exa Z h' a C → Run p e below Q T' (mkF m pc' Ls rest)) : Run p e below Q T (mkF m pc Ls (v :: .ref a :: rest)) := by
  obtain ⟨vm0, k0, locs, hx, X, eT, r⟩ := w
  obtain ⟨T', h', X', e', Wq, stp⟩ := putF X hx r.hZ (host := "") r.ow (Or.inl wl) via eT F E L wi hty hn hf (g := mkF m pc Ls (v :: .ref a :: rest)) rfl rfl hd
  subst hp
  have Sa : Safe Z EL vm0 h a := by
    rcases hS with hS | hS
    · exact Safe.exa r.hZ.alike E hS.1 hS.2
    · exact (r.2.2.2.2.2.2.2.2.2 a hS).2
  exact Run.to stp (k T' h' ⟨vm0, k0, _, hx, X', e', r.wr Wq Sa q⟩ Wq (F.same Wq) (E.wr Wq))
theorem w_objInit (w : Wk p l e R s m args below meth c Z EL own h0 ws T h cells slots S) {idx : Nat} (w1 : (Jvm.Cond.methodLink own idx Lib.objectInit).before a0 Z = true) (w2 : (Jvm.Cond.instanceMethod Lib.objectInit).before a0 Z = true) (w3 : (Jvm.Cond.code Lib.objectInit ⟨#[0xb1]⟩ 1 none).before a0 Z = true) {a : Addr} (hd : decode c.code pc = .ok (.invokespecial idx, 3)) (hsz : Ls.size = c.maxLocals) (hf : 1 ≤ R.frames) {W : Nat} (hW : (rest.map fun v => v.category).sum ≤ W) (hl : W + 12 ≤ R.locals) (hp : pc + 3 = pc')
    (k : ∀ T', Wk p l e R s m args below meth c Z EL own h0 ws T' h cells slots S → Run p e below Q T' (mkF m pc' Ls rest)) : Run p e below Q T (mkF m pc Ls (.ref a :: rest)) := by
  obtain ⟨vm0, k0, locs, hx, X, eT, r⟩ := w
  obtain ⟨T', X', e', stp⟩ := initO X hx r.hZ r.ow w1 w2 w3 eT (g := mkF m pc Ls (.ref a :: rest)) rfl hsz rfl hd hf (W := W) (by show 2 * 0 + _ ≤ _; omega) hl
  subst hp
  exact Run.to stp (k T' ⟨vm0, k0, locs, hx, X', e', r⟩)
theorem w_ldcI (w : Wk p l e R s m args below meth c Z EL own h0 ws T h cells slots S) {index : Nat} {v : Int32} (wl : (Jvm.Cond.constant own index v).before a0 Z = true) (hd : decode c.code pc = .ok (.ldc index, 2)) (hp : pc + 2 = pc') (k : Run p e below Q T (mkF m pc' Ls (.int v :: st))) : Run p e below Q T (mkF m pc Ls st) := by
  obtain ⟨vm0, k0, locs, hx, X, eT, r⟩ := w
  subst hp
  exact Run.to (fun _ q => X.ldcI hx r.ow (mvT r.hZ wl) (g := mkF m pc Ls st) rfl hd q) k
theorem w_ldcJ (w : Wk p l e R s m args below meth c Z EL own h0 ws T h cells slots S) {index : Nat} {v : Int64} (wl : (Jvm.Cond.constantLong own index v).before a0 Z = true) (hd : decode c.code pc = .ok (.ldc2_w index, 3)) (hp : pc + 3 = pc') (k : Run p e below Q T (mkF m pc' Ls (.long v :: st))) : Run p e below Q T (mkF m pc Ls st) := by
  obtain ⟨vm0, k0, locs, hx, X, eT, r⟩ := w
  subst hp
  exact Run.to (fun _ q => X.ldc2J hx r.ow (mvT r.hZ wl) (g := mkF m pc Ls st) rfl hd q) k
/-- ldc of a String constant that is one of EL: read -/
theorem w_ldcS (w : Wk p l e R s m args below meth c Z EL own h0 ws T h cells slots S) (hEL : EW Z a0 EL) {text : String} {index : Nat} (wl : (Jvm.Cond.stringLink own index text).before a0 Z = true) (wS : ∀ a ∈ Bundle.stringAtoms, a.before a0 Z = true) (hmem : (own, index) ∈ EL) {vs : List Value} {z : Int32} {n : Nat}
    (ht : (∀ c ∈ text.toList, c.toNat < 256) ∧ text.toList.map (fun c => Value.int (Jvm.Lit.byteI c.toNat.toUInt16)) = vs) (hz : ¬ z < 0) (hl : z.toNatClampNeg = vs.length) (hn : 4 * text.toList.length ≤ n) (hbig : n ≤ 536870912) (hd : decode c.code pc = .ok (.ldc index, 2)) (hp : pc + 2 = pc') (hc : cells + 2 ≤ R.cells) (hl' : slots + (n + 4) ≤ R.slots)
    (k : ∀ T' h' x t kb, Wk p l e R s m args below meth c Z EL own h0 ws T' h' (cells + 2) (slots + (n + 4)) S → Ext h h' → Exa Z h' x "java/lang/String" → Fld Z h' x "java/lang/String" "coder" "B" (.int 0) → Fld Z h' x "java/lang/String" "value" "[B" (.ref t) → Arv Z h' t kb .byte z vs (.int 0) → (∀ y ∈ S, y ≠ x ∧ y ≠ t) → Run p e below Q T' (mkF m pc' Ls (.ref x :: st))) : Run p e below Q T (mkF m pc Ls st) := by
  obtain ⟨vm0, k0, locs, hx, X, eT, r⟩ := w
  obtain ⟨x, T', h', k1, t, kb, X', e', E, hS, hk1, hZ', hown', A, C, V, K, -, -, hCH, -, hne, stp⟩ := ldcCH X hx r.hZ r.ow wl wS eT r.1 r.2.1 hEL hmem r.ch ht hz hl (g := mkF m pc Ls st) rfl hd hn hbig hc hl'
  subst hp
  obtain ⟨a1, a2, a3, a4, a5, a6, a7, a8, a9, a10⟩ := r
  have hs : ∀ y ∈ S, y < h'.size ∧ Safe Z EL T'.vm h' y := fun y q => ⟨Nat.lt_of_lt_of_le (a10 y q).1 E.1, hCH.safe (a10 y q).1 (a10 y q).2⟩
  exact Run.to stp (k T' h' x t kb ⟨T'.vm, k1, locs, hx, X', e', hS, hk1, hZ', hown', a5.trans hCH, a6, a7.ext E, a8, a9, hs⟩ E A C V K fun y q => hne y (hs y q).2)
/-- ldc of any String constant: what it pushes is a reference -/
theorem w_ldcO (w : Wk p l e R s m args below meth c Z EL own h0 ws T h cells slots S) (hEL : EW Z a0 EL) {text : String} {index : Nat} (wl : (Jvm.Cond.stringLink own index text).before a0 Z = true) (wS : ∀ a ∈ Bundle.stringAtoms, a.before a0 Z = true) {n : Nat} (hn : 4 * text.toList.length ≤ n) (hbig : n ≤ 536870912) (hd : decode c.code pc = .ok (.ldc index, 2)) (hp : pc + 2 = pc') (hc : cells + 2 ≤ R.cells) (hl' : slots + (n + 4) ≤ R.slots)
    (k : ∀ T' h' x, Wk p l e R s m args below meth c Z EL own h0 ws T' h' (cells + 2) (slots + (n + 4)) S → Ext h h' → Run p e below Q T' (mkF m pc' Ls (.ref x :: st))) : Run p e below Q T (mkF m pc Ls st) := by
  obtain ⟨vm0, k0, locs, hx, X, eT, r⟩ := w
  obtain ⟨x, T', h', k1, X', e', E, hS, hk1, hZ', hown', hCH, -, stp⟩ := ldcOH X hx r.hZ r.ow wl wS eT r.1 r.2.1 hEL r.ch (g := mkF m pc Ls st) rfl hd hn hbig hc hl'
  subst hp
  obtain ⟨a1, a2, a3, a4, a5, a6, a7, a8, a9, a10⟩ := r
  exact Run.to stp (k T' h' x ⟨T'.vm, k1, locs, hx, X', e', hS, hk1, hZ', hown', a5.trans hCH, a6, a7.ext E, a8, a9, fun y q => ⟨Nat.lt_of_lt_of_le (a10 y q).1 E.1, hCH.safe (a10 y q).1 (a10 y q).2⟩⟩ E)
/-! contracts -/
/-- what a body promises at its end -/
def Qm (Z : State) (EL : List (String × Nat)) (s : State) (h0 : Heap) (ws : List Addr) (rm : Room) (P : Option Value → Heap → Prop) (o : Outcome) (U' : State) : Prop :=
  ∃ v L, o = .returned v ∧ (Fr Z.heap.size L ∧ Keep h0 U'.heap ws ∧ P v U'.heap) ∧ CHr Z EL s.vm s.heap U'.vm U'.heap ∧ ReturnedEndW s o U' L rm.cells rm.slots
def Pm (Z : State) (EL : List (String × Nat)) (as' : Array Value) (h : Heap) (S ws : List Addr) (a : Array Value) (U : State) : Prop := a = as' ∧ Z.Warmed39 U.vm ∧ U.heap = h ∧ CHv Z EL U.vm h ∧ Ext Z.heap h ∧ (∀ x ∈ ws, Z.heap.size ≤ x) ∧ ∀ x ∈ S, x < h.size ∧ Safe Z EL U.vm h x
def Met (l : Launch) (Z : State) (EL : List (String × Nat)) (y : MethodName) (bytes : ByteArray) (maxL : Nat) (ret : Option FieldType) (rm : Room) (as' : Array Value) (h : Heap) (S ws : List Addr) (P : Option Value → Heap → Prop) : Prop :=
  ∀ wl : List Jvm.Cond, MetFree l y (head1 (Jvm.Cond.code y bytes maxL ret :: wl) rm) (Pm Z EL as' h S ws) (fun _ _ _ _ _ => True) (fun _ U o U' => Qm Z EL U h ws rm P o U')
/-- a body's contract: walk it from its first frame -/
theorem Met.of {y : MethodName} {bytes : ByteArray} {maxL : Nat} {ret : Option FieldType} {rm : Room} {as' : Array Value} {P : Option Value → Heap → Prop} (hpn : plainFor y = true)
    (body : ∀ p e s m below meth c T, meth.name = y.name → meth.sig.returnType = ret → meth.locks = false → c.code = bytes → c.maxLocals = maxL → s.heap = h0 → Wk p l e rm s m as' below meth c Z EL y.cls h0 ws T h0 0 0 S → Run p e below (Qm Z EL s h0 ws rm P) T (entryFrame m as' maxL)) : Met l Z EL y bytes maxL ret rm as' h0 S ws P := by
  intro wl
  refine MetFree.of_bodySF (code := bytes) (maxLocals := maxL) (ret := ret) hpn hisR ?_
  intro p e s m args below meth c s₁ Bd hml0 hP hK
  obtain ⟨rfl, hZ, hh, hC, hn, hws, hS⟩ := hP
  have hnm := (name_of_methodNamed Bd.named Bd.method).1
  have hown : s.vm.findClass y.cls = some m.cls := findClass_of_methodNamed Bd.named
  have X0 : Stand p l e rm s m args below meth c s₁ [] 0 0 := Stand.of_body Bd
  have e0 : s₁.heap = h0 := by rw [← hh, Bd.state]; rfl
  exact body p e s m below meth c s₁ hnm Bd.returns Bd.notSynchronized Bd.bytes hml0 hh ⟨s.vm, 0, [], Bd.exec, X0, e0, (State.WarmedH.refl s).since 0, Nat.zero_le _, hZ, hown, CHr.refl hC, Fr.nil _, Keep.refl _ _, hn, hws, hS⟩
/-- the end of a walk -/
theorem w_ret (w : Wk p l e R s m args below meth c Z EL own h0 ws T h cells slots S) (hEL : EW Z a0 EL) (hs : s.heap = h0) (hlk : meth.locks = false) {v : Option Value} (hv : meth.sig.returnType = none → v = none) {P : Option Value → Heap → Prop} (hP : P v h) (hc : cells ≤ R.cells) (hl : slots ≤ R.slots)
    (stp : ∀ {vm0 : Vm} {locs : List Loc}, Stand p l e R (s.setVm vm0) m args below meth c T locs cells slots → ∀ fs, (∀ (f : JFrame) (acts : List Action), f.method = m → f.locked = none → f.entered = [] → (doReturn e (T.setTop f) acts v).1 = T.setFrames fs) → Steps p.tables e below (T.setTop g) (T.setFrames fs)) : Run p e below (Qm Z EL s h0 ws R P) T g := by
  obtain ⟨vm0, k0, locs, hx, X, eT, r⟩ := w
  obtain ⟨fs, hr, hrun, hended, hE⟩ := X.leaveW r.1 (by rw [eT]; exact r.2.1) hv
  refine ⟨_, _, stp X fs hr, hrun, hended, v, locs, rfl, ⟨r.2.2.2.2.2.1, ?_, ?_⟩, ?_, hE.1, hE.2.1, hE.2.2.1, hE.2.2.2.mono hc hl⟩
  · show Keep h0 T.heap ws
    rw [eT]; exact r.keep
  · show P v T.heap
    rw [eT]; exact hP
  · show CHr Z EL s.vm s.heap T.vm T.heap
    rw [eT, hs]
    exact r.2.2.2.2.1.trans (CHv.at X r.hZ hEL r.ch)
theorem w_ireturn (w : Wk p l e R s m args below meth c Z EL own h0 ws T h cells slots S) (hEL : EW Z a0 EL) (hs : s.heap = h0) (hlk : meth.locks = false) {t : FieldType} {z : Int32} (hret : meth.sig.returnType = some t) (hn : narrow t (.int z) = .int z) (ht : t = .int ∨ t = .boolean ∨ t = .byte ∨ t = .char ∨ t = .short) {P : Option Value → Heap → Prop} (hd : decode c.code pc = .ok (.ireturn, 1)) (hc : cells ≤ R.cells) (hl : slots ≤ R.slots) (hP : P (some (.int z)) h) : Run p e below (Qm Z EL s h0 ws R P) T (mkF m pc Ls [.int z]) :=
  w_ret w hEL hs hlk (v := some (.int z)) (fun q => by rw [hret] at q; cases q) hP hc hl fun X fs hr => X.ireturnOut w.hx hret hn ht hd hr
theorem w_lreturn (w : Wk p l e R s m args below meth c Z EL own h0 ws T h cells slots S) (hEL : EW Z a0 EL) (hs : s.heap = h0) (hlk : meth.locks = false) {z : Int64} (hret : meth.sig.returnType = some .long) {P : Option Value → Heap → Prop} (hd : decode c.code pc = .ok (.lreturn, 1)) (hc : cells ≤ R.cells) (hl : slots ≤ R.slots) (hP : P (some (.long z)) h) : Run p e below (Qm Z EL s h0 ws R P) T (mkF m pc Ls [.long z]) :=
  w_ret w hEL hs hlk (v := some (.long z)) (fun q => by rw [hret] at q; cases q) hP hc hl fun X fs hr => X.lreturnOut w.hx hret hd hr
theorem w_areturn (w : Wk p l e R s m args below meth c Z EL own h0 ws T h cells slots S) (hEL : EW Z a0 EL) (hs : s.heap = h0) (hlk : meth.locks = false) {t : FieldType} {v : Value} (hret : meth.sig.returnType = some t) (ht : t.isReference = true) (hv : v.isRef = true) {P : Option Value → Heap → Prop} (hd : decode c.code pc = .ok (.areturn, 1)) (hc : cells ≤ R.cells) (hl : slots ≤ R.slots) (hP : P (some v) h) : Run p e below (Qm Z EL s h0 ws R P) T (mkF m pc Ls [v]) :=
  w_ret w hEL hs hlk (v := some v) (fun q => by rw [hret] at q; cases q) hP hc hl fun X fs hr => X.areturnOut w.hx hv hret ht hd hr
theorem w_return (w : Wk p l e R s m args below meth c Z EL own h0 ws T h cells slots S) (hEL : EW Z a0 EL) (hs : s.heap = h0) (hlk : meth.locks = false) (hret : meth.sig.returnType = none) {P : Option Value → Heap → Prop} (hd : decode c.code pc = .ok (.return_, 1)) (hc : cells ≤ R.cells) (hl : slots ≤ R.slots) (hP : P none h) : Run p e below (Qm Z EL s h0 ws R P) T (mkF m pc Ls []) :=
  w_ret w hEL hs hlk (v := none) (fun _ => rfl) hP hc hl fun X fs hr => X.returnOut w.hx hret hd hr
/-- a contract pays its caller -/
theorem Met.back {y : MethodName} {bytes : ByteArray} {maxL : Nat} {ret : Option FieldType} {rm : Room} {as' : Array Value} {S' ws' : List Addr} {P : Option Value → Heap → Prop} {len W : Nat} (hM : Met l Z EL y bytes maxL ret rm as' h S' ws' P) (hZ : Z.Warmed39 vm0) (wc : (Jvm.Cond.code y bytes maxL ret).before a0 Z = true) (wz : (Jvm.Cond.initialized y.cls).before a0 Z = true)
    (hf : rm.frames + 1 ≤ R.frames) (hl : W + (maxL + 11) + rm.locals ≤ R.locals) (hEL : EW Z a0 EL) (H : CHv Z EL vm0 h) (hn : Ext Z.heap h) (hws : ∀ x ∈ ws', Z.heap.size ≤ x) (hS : ∀ x ∈ S', x < h.size ∧ Safe Z EL vm0 h x) :
    BackS l R p e below (s.setVm vm0) args y len W (fun A a => a = as' ∧ A.U.heap = h ∧ A.cells + rm.cells ≤ R.cells ∧ A.slots + rm.slots ≤ R.slots)
      (fun A _ v B => ∃ L, (Fr Z.heap.size L ∧ Keep h B.U.heap ws' ∧ P v B.U.heap) ∧ B.locs = A.locs ++ L ∧ B.cells = A.cells + rm.cells ∧ B.slots = A.slots + rm.slots ∧ CHr Z EL vm0 h B.U.vm B.U.heap) :=
  BackS.of_freeW (bytes := bytes) (maxL := maxL) (ret := ret) (E := fun _ first o t L k n => k = rm.cells ∧ n = rm.slots ∧ (∃ v, o = .returned v ∧ (Fr Z.heap.size L ∧ Keep h t.heap ws' ∧ P v t.heap)) ∧ CHr Z EL first.vm first.heap t.vm t.heap) (hM []) hf hl
    (fun m meth c A a Y hp => have hU : Z.Warmed39 A.U.vm := wtrans (s := s.setVm vm0) hZ Y.warmed
      ⟨by show (Jvm.Cond.and _ .tt).before a A.U = true; rw [Cond.before_and, mv hU wc]; rfl, mv hU wc, mv hU wz, hp.2.2.1, hp.2.2.2⟩)
    (fun m meth c A a g mk Y hp => ⟨hp.1, wtrans (s := s.setVm vm0) hZ Y.warmed, hp.2.1, (CHv.at Y hZ hEL H).1, hn, hws, fun x q => ⟨(hS x q).1, (CHv.at Y hZ hEL H).safe (hS x q).1 (hS x q).2⟩⟩) (fun _ _ _ _ _ _ _ _ _ => trivial)
    (fun _ _ _ _ ⟨v, L, h1, h2, h3, h4⟩ => ⟨L, _, _, h4, rfl, rfl, ⟨v, h1, h2⟩, h3⟩)
    (fun m meth c A a g mk v t L k n Y hp _ _ ⟨e1, e2, ⟨v', e3, e4⟩, e5⟩ => by
      cases e3; subst e1 e2
      refine ⟨L, e4, rfl, rfl, rfl, (CHv.at Y hZ hEL H).trans ?_⟩
      rw [← hp.2.1]; exact e5)
/-- what stands behind a call -/
theorem Rs.call (r : Rs s m Z EL own h0 ws vm0 k0 locs h S) {vm1 : Vm} {L : List Loc} {ws' : List Addr} (h2 : (s.setVm vm0).Since vm1 h'.size) (hC : CHr Z EL vm0 h vm1 h') (F : Fr Z.heap.size L) (K : Keep h h' ws') (q : ∀ x ∈ ws', x ∈ ws ∨ h0.size ≤ x) : Rs s m Z EL own h0 ws vm1 h'.size (locs ++ L) h' S := by
  obtain ⟨a1, a2, a3, a4, a5, a6, a7, a8, a9, a10⟩ := r
  exact ⟨a1.trans h2 (Nat.le_trans a2 K.1), Nat.le_refl _, State.Warmed39.trans (t := s.setVm vm0) a3 h2.1, (h2.1.alike.findClass _ _).trans a4, a5.trans hC, a6.app F, a7.trans K q, a8, a9, fun x z => ⟨Nat.lt_of_lt_of_le (a10 x z).1 K.1, hC.safe (a10 x z).1 (a10 x z).2⟩⟩
theorem w_static (w : Wk p l e R s m args below meth c Z EL own h0 ws T h cells slots S) (hEL : EW Z a0 EL) {index : Nat} {y : MethodName} {bytes : ByteArray} {maxL : Nat} {ret : Option FieldType} {rm : Room} {as' : Array Value} {S' ws' : List Addr} {P : Option Value → Heap → Prop} {W : Nat} {argsL : List Value}
    (w1 : (Jvm.Cond.methodLink own index y).before a0 Z = true) (w2 : (Jvm.Cond.static y).before a0 Z = true) (w3 : (Jvm.Cond.initialized y.cls).before a0 Z = true) (w4 : (Jvm.Cond.code y bytes maxL ret).before a0 Z = true) (hy : y.cls ≠ "java/lang/invoke/MethodHandle" ∧ y.cls ≠ "java/lang/invoke/VarHandle")
    (hM : Met l Z EL y bytes maxL ret rm as' h S' ws' P) (hS : ∀ x ∈ S', x ∈ S) (hws : ∀ x ∈ ws', x ∈ ws ∨ h0.size ≤ x) (hlen : ∀ sig, parseMethodDescriptor y.desc = some sig → argsL.length = sig.parameters.length) (ha : argsL.toArray = as') (hst : st = argsL.reverse ++ rest) (hd : decode c.code pc = .ok (.invokestatic index, 3)) (hsz : Ls.size = c.maxLocals)
    (hW : (rest.map fun v => v.category).sum ≤ W) (hf : rm.frames + 1 ≤ R.frames) (hl : W + (maxL + 11) + rm.locals ≤ R.locals) (hc : cells + rm.cells ≤ R.cells) (hsl : slots + rm.slots ≤ R.slots) (hp : pc + 3 = pc')
    (k : ∀ v T' h', Wk p l e R s m args below meth c Z EL own h0 ws T' h' (cells + rm.cells) (slots + rm.slots) S → Keep h h' ws' → P v h' → Run p e below Q T' (mkF m pc' Ls (v.toList ++ rest))) : Run p e below Q T (mkF m pc Ls st) := by
  obtain ⟨vm0, k0, locs, hx, X, eT, r⟩ := w
  have hn := r.old
  have hb := Met.back (R := R) (p := p) (e := e) (below := below) (s := s) (args := args) (len := 3) (W := W) hM r.hZ w4 w3 hf hl hEL r.ch hn (fun x q => (hws x q).elim (r.2.2.2.2.2.2.2.2.1 x) (Nat.le_trans r.2.2.2.2.2.2.2.1.1)) (fun x q => r.2.2.2.2.2.2.2.2.2 x (hS x q))
  obtain ⟨v, vm1, ⟨T', L', c', n'⟩, -, X', hSi, hg, ⟨L, ⟨q1, q2, q3⟩, y1, y2, y3, hC⟩, stp⟩ := callSS X hx r.ow (mvT r.hZ w1) (mvT r.hZ w2) (mvT r.hZ w3) (mvT r.hZ w4) hy hb (g := mkF m pc Ls st) rfl hsz (argsL := argsL) (rest := rest) hlen hst (by show 2 * 0 + _ ≤ _; omega) hd (fun _ _ => ⟨ha, eT, hc, hsl⟩)
  dsimp only [Pt.U, Pt.locs, Pt.cells, Pt.slots] at X' hSi hg q2 q3 y1 y2 y3 hC stp
  subst y1 y2 y3 hp
  exact Run.stp stp (k v T' T'.heap ⟨T'.vm, _, _, hx, X', rfl, r.call hSi hC q1 q2 hws⟩ q2 q3)
theorem w_special (w : Wk p l e R s m args below meth c Z EL own h0 ws T h cells slots S) (hEL : EW Z a0 EL) {index : Nat} {y : MethodName} {bytes : ByteArray} {maxL : Nat} {rm : Room} {as' : Array Value} {S' ws' : List Addr} {P : Option Value → Heap → Prop} {W : Nat} {a : Addr} {argsL : List Value}
    (hy1 : y.name = "<init>") (w1 : (Jvm.Cond.methodLink own index y).before a0 Z = true) (w2 : (Jvm.Cond.instanceMethod y).before a0 Z = true) (w3 : (Jvm.Cond.initialized y.cls).before a0 Z = true) (w4 : (Jvm.Cond.code y bytes maxL none).before a0 Z = true) (hy : y.cls ≠ "java/lang/invoke/MethodHandle" ∧ y.cls ≠ "java/lang/invoke/VarHandle")
    (hM : Met l Z EL y bytes maxL none rm as' h S' ws' P) (hS : ∀ x ∈ S', x ∈ S) (hws : ∀ x ∈ ws', x ∈ ws ∨ h0.size ≤ x) (hlen : ∀ sig, parseMethodDescriptor y.desc = some sig → argsL.length = sig.parameters.length) (ha : (Value.ref a :: argsL).toArray = as') (hst : st = argsL.reverse ++ .ref a :: rest) (hd : decode c.code pc = .ok (.invokespecial index, 3)) (hsz : Ls.size = c.maxLocals)
    (hW : (rest.map fun v => v.category).sum ≤ W) (hf : rm.frames + 1 ≤ R.frames) (hl : W + (maxL + 11) + rm.locals ≤ R.locals) (hc : cells + rm.cells ≤ R.cells) (hsl : slots + rm.slots ≤ R.slots) (hp : pc + 3 = pc')
    (k : ∀ v T' h', Wk p l e R s m args below meth c Z EL own h0 ws T' h' (cells + rm.cells) (slots + rm.slots) S → Keep h h' ws' → P v h' → Run p e below Q T' (mkF m pc' Ls (v.toList ++ rest))) : Run p e below Q T (mkF m pc Ls st) := by
  obtain ⟨vm0, k0, locs, hx, X, eT, r⟩ := w
  have hn := r.old
  have hb := Met.back (R := R) (p := p) (e := e) (below := below) (s := s) (args := args) (len := 3) (W := W) hM r.hZ w4 w3 hf hl hEL r.ch hn (fun x q => (hws x q).elim (r.2.2.2.2.2.2.2.2.1 x) (Nat.le_trans r.2.2.2.2.2.2.2.1.1)) (fun x q => r.2.2.2.2.2.2.2.2.2 x (hS x q))
  obtain ⟨v, vm1, ⟨T', L', c', n'⟩, -, X', hSi, hg, ⟨L, ⟨q1, q2, q3⟩, y1, y2, y3, hC⟩, stp⟩ := X.specialBackS hx hy1 r.ow (mvT r.hZ w1) (mvT r.hZ w2) (mvT r.hZ w4) hy hb (g := mkF m pc Ls st) rfl hsz (Steps.refl _) (a := a) (argsL := argsL) (rest := rest) hlen hst (by show 2 * 0 + _ ≤ _; omega) hd (fun _ _ => ⟨ha, eT, hc, hsl⟩)
  dsimp only [Pt.U, Pt.locs, Pt.cells, Pt.slots] at X' hSi hg q2 q3 y1 y2 y3 hC stp
  subst y1 y2 y3 hp
  exact Run.stp stp (k v T' T'.heap ⟨T'.vm, _, _, hx, X', rfl, r.call hSi hC q1 q2 hws⟩ q2 q3)
theorem w_virtual (w : Wk p l e R s m args below meth c Z EL own h0 ws T h cells slots S) (hEL : EW Z a0 EL) {index : Nat} {y y' : MethodName} {C : String} {bytes : ByteArray} {maxL : Nat} {ret : Option FieldType} {rm : Room} {as' : Array Value} {S' ws' : List Addr} {P : Option Value → Heap → Prop} {W : Nat} {a : Addr} {argsL : List Value}
    (w1 : (Jvm.Cond.methodLink own index y).before a0 Z = true) (w2 : (Jvm.Cond.declares y).before a0 Z = true) (w5 : (Jvm.Cond.selects y.cls y y).before a0 Z = true) (w6 : (Jvm.Cond.selects C y y').before a0 Z = true) (w7 : (Jvm.Cond.instanceMethod y').before a0 Z = true) (w3 : (Jvm.Cond.initialized y'.cls).before a0 Z = true) (w4 : (Jvm.Cond.code y' bytes maxL ret).before a0 Z = true) (hy : y.cls ≠ "java/lang/invoke/MethodHandle" ∧ y.cls ≠ "java/lang/invoke/VarHandle")
    (E : Exa Z h a C) (hM : Met l Z EL y' bytes maxL ret rm as' h S' ws' P) (hS : ∀ x ∈ S', x ∈ S) (hws : ∀ x ∈ ws', x ∈ ws ∨ h0.size ≤ x) (hlen : ∀ sig, parseMethodDescriptor y.desc = some sig → argsL.length = sig.parameters.length) (ha : (Value.ref a :: argsL).toArray = as') (hst : st = argsL.reverse ++ .ref a :: rest) (hd : decode c.code pc = .ok (.invokevirtual index, 3)) (hsz : Ls.size = c.maxLocals)
    (hW : (rest.map fun v => v.category).sum ≤ W) (hf : rm.frames + 1 ≤ R.frames) (hl : W + (maxL + 11) + rm.locals ≤ R.locals) (hc : cells + rm.cells ≤ R.cells) (hsl : slots + rm.slots ≤ R.slots) (hp : pc + 3 = pc')
    (k : ∀ v T' h', Wk p l e R s m args below meth c Z EL own h0 ws T' h' (cells + rm.cells) (slots + rm.slots) S → Keep h h' ws' → P v h' → Run p e below Q T' (mkF m pc' Ls (v.toList ++ rest))) : Run p e below Q T (mkF m pc Ls st) := by
  obtain ⟨vm0, k0, locs, hx, X, eT, r⟩ := w
  have hn := r.old
  have hb := Met.back (R := R) (p := p) (e := e) (below := below) (s := s) (args := args) (len := 3) (W := W) hM r.hZ w4 w3 hf hl hEL r.ch hn (fun x q => (hws x q).elim (r.2.2.2.2.2.2.2.2.1 x) (Nat.le_trans r.2.2.2.2.2.2.2.1.1)) (fun x q => r.2.2.2.2.2.2.2.2.2 x (hS x q))
  obtain ⟨cq, kq, qa, qb, qc⟩ := isOf r.hZ eT E
  obtain ⟨v, vm1, ⟨T', L', c', n'⟩, -, X', hSi, hg, ⟨L, ⟨q1, q2, q3⟩, y1, y2, y3, hC⟩, stp⟩ := X.virtualBackS hx r.ow (mvT r.hZ w1) (mvT r.hZ w2) (notFace_of_selects (args := #[]) (mvT r.hZ w5)) (mvT r.hZ w6) (mvT r.hZ w7) hy hb qa qc (g := mkF m pc Ls st) rfl hsz (Steps.refl _) (argsL := argsL) (rest := rest) hlen hst (by show 2 * 0 + _ ≤ _; omega) hd (fun _ _ => ⟨ha, eT, hc, hsl⟩)
  dsimp only [Pt.U, Pt.locs, Pt.cells, Pt.slots] at X' hSi hg q2 q3 y1 y2 y3 hC stp
  subst y1 y2 y3 hp
  exact Run.stp stp (k v T' T'.heap ⟨T'.vm, _, _, hx, X', rfl, r.call hSi hC q1 q2 hws⟩ q2 q3)
/-- a law of the pasted text (Back), of a virtual call that leaves the heap as it was -/
theorem w_virtB (w : Wk p l e R s m args below meth c Z EL own h0 ws T h cells slots S) {index : Nat} {y y' : MethodName} {C : String} {as' : Array Value} {Pv : Option Value → Prop} {W : Nat} {a : Addr} {argsL : List Value}
    (w1 : (Jvm.Cond.methodLink own index y).before a0 Z = true) (w2 : (Jvm.Cond.declares y).before a0 Z = true) (w5 : (Jvm.Cond.selects y.cls y y).before a0 Z = true) (w6 : (Jvm.Cond.selects C y y').before a0 Z = true) (w7 : (Jvm.Cond.instanceMethod y').before a0 Z = true) (hy : y.cls ≠ "java/lang/invoke/MethodHandle" ∧ y.cls ≠ "java/lang/invoke/VarHandle")
    (E : Exa Z h a C) (hK : ∀ vm0, Z.Warmed39 (s.setVm vm0).vm → Back l R p e below (s.setVm vm0) args y' 3 W (fun P b => b = as' ∧ P.U.heap = h ∧ P.cells + 0 ≤ R.cells ∧ P.slots + 0 ≤ R.slots) (fun P _ v B => ∃ L, (Pv v ∧ L = [] ∧ B.U.heap = h) ∧ B.locs = P.locs ++ L ∧ B.cells = P.cells + 0 ∧ B.slots = P.slots + 0))
    (hlen : ∀ sig, parseMethodDescriptor y.desc = some sig → argsL.length = sig.parameters.length) (ha : (Value.ref a :: argsL).toArray = as') (hst : st = argsL.reverse ++ .ref a :: rest) (hd : decode c.code pc = .ok (.invokevirtual index, 3)) (hsz : Ls.size = c.maxLocals)
    (hW : (rest.map fun v => v.category).sum ≤ W) (hc : cells ≤ R.cells) (hsl : slots ≤ R.slots) (hp : pc + 3 = pc')
    (k : ∀ v T', Wk p l e R s m args below meth c Z EL own h0 ws T' h cells slots S → Pv v → Run p e below Q T' (mkF m pc' Ls (v.toList ++ rest))) : Run p e below Q T (mkF m pc Ls st) := by
  obtain ⟨vm0, k0, locs, hx, X, eT, r⟩ := w
  obtain ⟨cq, kq, qa, qb, qc⟩ := isOf r.hZ eT E
  obtain ⟨v, vm1, ⟨T', L', c', n'⟩, -, X', ⟨L, ⟨q1, q2, q3⟩, y1, y2, y3⟩, stp⟩ := X.virtualBack hx r.ow (mvT r.hZ w1) (mvT r.hZ w2) (notFace_of_selects (args := #[]) (mvT r.hZ w5)) (mvT r.hZ w6) (mvT r.hZ w7) hy (hK vm0 r.hZ) qa qc (g := mkF m pc Ls st) rfl hsz (Steps.refl _) (argsL := argsL) (rest := rest) hlen hst (by show 2 * 0 + _ ≤ _; omega) hd (fun _ _ => ⟨ha, eT, hc, hsl⟩)
  dsimp only [Pt.U, Pt.locs, Pt.cells, Pt.slots] at X' q3 y1 y2 y3 stp
  subst q2 y1 y2 y3 hp
  rw [List.append_nil] at X'
  exact Run.stp stp (k v T' ⟨vm0, k0, locs, hx, X', q3, r⟩ q1)
end Kit
end Ow
end Jvm.Pilot.@@N@@


namespace Jvm.Pilot.@@N@@
open Jvm Jvm.ClassFile Sem Op Lib Jvm.Free Jvm.Stand Jvm.LawKit Jvm.RoadKit Bundle Jvm.Pilot.@@N@@.Jvm.D
namespace Ow
open StrChars StrChars.Road
abbrev wordsS : List Jvm.Cond := .stringLink ST 7 "" :: Bundle.stringAtoms
theorem e4_8 : decode New4.yB 8 = .ok (.aload_n 0, 1) := by decide +kernel
theorem e4_9 : decode New4.yB 9 = .ok (.ldc 7, 2) := by decide +kernel
theorem e4_11 : decode New4.yB 11 = .ok (.getfield 9, 3) := by decide +kernel
theorem e4_14 : decode New4.yB 14 = .ok (.putfield 9, 3) := by decide +kernel
theorem e4_17 : decode New4.yB 17 = .ok (.aload_n 0, 1) := by decide +kernel
theorem e4_18 : decode New4.yB 18 = .ok (.ldc 7, 2) := by decide +kernel
theorem e4_20 : decode New4.yB 20 = .ok (.getfield 15, 3) := by decide +kernel
theorem e4_23 : decode New4.yB 23 = .ok (.putfield 15, 3) := by decide +kernel
theorem e4_26 : decode New4.yB 26 = .ok (.return_, 1) := by decide +kernel
theorem pnS : plainName "java/lang/String" = true := by first | (simp [plainName, overriddenIn]; done) | decide +kernel
theorem ef4 (m : MethodId) (x b : Addr) : entryFrame m #[.ref x, .ref b, .int 0, .int 0, .null] 6 = mkF m 0 #[.val (.ref x), .val (.ref b), .val (.int 0), .val (.int 0), .val .null, .unset] [] := by first | (simp [entryFrame, mkF, argsToLocals, Value.category]; done) | rfl
theorem ef1 (m : MethodId) (x b : Addr) : entryFrame m #[.ref x, .ref b] 2 = mkF m 0 #[.val (.ref x), .val (.ref b)] [] := by first | (simp [entryFrame, mkF, argsToLocals, Value.category]; done) | rfl
section StrK
variable {p : Program} {l : Launch} {e : Env} {R : Room} {s : State} {m : MethodId} {args : Array Value} {below : List Frame} {meth : Method} {c : Code} {Z : State} {a0 : Array Value} {EL : List (String × Nat)} {own : String} {h0 : Heap} {ws : List Addr} {T T' : State} {h h' hB : Heap} {cells slots : Nat} {S : List Addr} {Q : Outcome → State → Prop} {pc pc' pc1 pc2 : Nat} {Ls l' : Array Slot} {rest st : List Value} {x y : Addr} {cs ds : List Int32}
/-- the String at x spells cs -/
def Str (Z : State) (h : Heap) (x : Addr) (cs : List Int32) : Prop :=
  Exa Z h x ST ∧ ∃ (t : Addr) (kb : ClassId) (cd N2 : Int32) (vs : List Value), Fld Z h x ST "value" "[B" (.ref t) ∧ Fld Z h x ST "coder" "B" (.int cd) ∧ Arv Z h t kb .byte N2 vs (.int 0) ∧ CodA cs cd N2 vs ∧ (∀ c ∈ cs, ¬ c < 0 ∧ ¬ (65535 : Int32) < c) ∧ cs.length ≤ 4000
theorem Str.ext (F : Str Z h x cs) (E : Ext h h') : Str Z h' x cs := by
  obtain ⟨a, t, kb, cd, N2, vs, q1, q2, q3, q4⟩ := F
  exact ⟨a.ext E, t, kb, cd, N2, vs, q1.ext E, q2.ext E, q3.ext E, q4⟩
theorem Str.low (A : Exa Z h x ST) {t : Addr} {kb : ClassId} {N : Int32} {n : Nat} (V : Fld Z h x ST "value" "[B" (.ref t)) (C : Fld Z h x ST "coder" "B" (.int 0)) (hn : cs.length = n) (hN : N = Int32.ofNat n) (K : Arv Z h t kb .byte N ((cs.map (fun c => c.toInt8.toInt32)).map Value.int) (.int 0)) (hp : ∀ c ∈ cs, ¬ c < 0 ∧ ¬ (255 : Int32) < c) (hl : n ≤ 4000) : Str Z h x cs := by
  subst hN hn
  refine ⟨A, t, kb, 0, _, _, V, C, K, codOf rfl fun c q => (hp c q).2, fun c q => ⟨(hp c q).1, fun z => (hp c q).2 ?_⟩, hl⟩
  have := Int32.lt_iff_toInt_lt.mp z
  rw [Int32.lt_iff_toInt_lt]
  have e1 : (65535 : Int32).toInt = 65535 := by decide
  have e2 : (255 : Int32).toInt = 255 := by decide
  omega
/-- new String(char[]): the constructor's call, of one to 4,000 signs below 256 -/
theorem w_strInitP (w : Wk p l e R s m args below meth c Z EL own h0 ws T h cells slots S) (hw1 : ∀ d ∈ StrChars.Road.words, d.before a0 Z = true) (wi : (Jvm.Cond.instantiable ST 4).before a0 Z = true) {index : Nat} (wl : (Jvm.Cond.methodLink own index New1.yN).before a0 Z = true) (wm : (Jvm.Cond.instanceMethod New1.yN).before a0 Z = true)
    {b : Addr} {v0 c0 : Value} {ka : ClassId} {N zc : Int32} {n W : Nat} {dv : Value} (E : Exa Z h x ST) (V : Fld Z h x ST "value" "[B" v0) (C : Fld Z h x ST "coder" "B" c0) (K : Arv Z h b ka .char N (cs.map Value.int) dv) (SC : Sta Z Z.heap ST "COMPACT_STRINGS" "Z" (.int zc)) (hz : ¬ zc = 0)
    (hn : cs.length = n) (hN : N = Int32.ofNat n) (h0n : 0 < n) (hl2 : n ≤ 4000) (hcs : ∀ c ∈ cs, ¬ c < 0 ∧ ¬ (255 : Int32) < c) (hxS : x ∈ S) (hx0 : x ∈ ws ∨ h0.size ≤ x) (hZx : Z.heap.size ≤ x) (hd : decode c.code pc = .ok (.invokespecial index, 3)) (hsz : Ls.size = c.maxLocals) (hW : (rest.map fun v => v.category).sum ≤ W) (hf : 4 ≤ R.frames) (hl : W + 65 ≤ R.locals) (hc : cells + 1 ≤ R.cells) (hsl : slots + n ≤ R.slots) (hp : pc + 3 = pc')
    (k : ∀ T' h', Wk p l e R s m args below meth c Z EL own h0 ws T' h' (cells + 1) (slots + n) S → Keep h h' [x] → Str Z h' x cs → Run p e below Q T' (mkF m pc' Ls rest)) : Run p e below Q T (mkF m pc Ls (.ref b :: .ref x :: rest)) := by
  obtain ⟨vm0, k0, locs, hx, X, eT, r⟩ := w
  obtain ⟨v, vm1, ⟨T', L', c', n'⟩, -, X', ⟨L, hQ, y1, y2, y3⟩, stp⟩ := X.specialBack hx (y := New1.yN) rfl r.ow (mvT r.hZ wl) (mvT r.hZ wm) (mvT r.hZ (hw1 _ (List.mem_of_getElem? (i := 0) rfl))) (by decide) (StrChars.Road.backV (W := W) r.hZ hw1 (kI := 4) wi (cs := cs) (bs := cs.map fun c => c.toInt8.toInt32) (n := n) (n0 := Z.heap.size) hZx r.old.1 E V C K (SC.ext r.old) hz hn hN h0n hl2 hcs rfl hf hl) (g := mkF m pc Ls (.ref b :: .ref x :: rest)) rfl hsz (Steps.refl _) (a := x) (argsL := [.ref b]) (rest := rest) (lenOf (by decide +kernel : parseMethodDescriptor "([C)V" = some ⟨[.array .char], none⟩) rfl) rfl (by show 2 * 0 + _ ≤ _; omega) hd (fun _ _ => ⟨rfl, eT, hc, hsl⟩)
  dsimp only [Pt.U, Pt.locs, Pt.cells, Pt.slots] at X' hQ y1 y2 y3 stp
  subst y1 y2 y3 hp
  obtain ⟨rfl, N', K', A, C', t, kb, -, -, -, V', B⟩ := hQ
  have Sx := (r.2.2.2.2.2.2.2.2.2 x hxS).2
  have hCr : CHr Z EL vm0 h vm0 T'.heap := CHr.keep K' (fun y q => by rw [List.mem_singleton.mp q]; exact Sx) r.ch
  obtain ⟨a1, a2, a3, a4, a5, a6, a7, a8, a9, a10⟩ := r
  have r' : Rs s m Z EL own h0 ws vm0 k0 (locs ++ L) T'.heap S := ⟨a1, Nat.le_trans a2 K'.1, a3, a4, a5.trans hCr, a6.app N', a7.trans K' (fun y q => by rw [List.mem_singleton.mp q]; exact hx0), a8, a9, fun y q => ⟨Nat.lt_of_lt_of_le (a10 y q).1 K'.1, hCr.safe (a10 y q).1 (a10 y q).2⟩⟩
  exact Run.stp stp (k T' T'.heap ⟨vm0, k0, _, hx, X', rfl, r'⟩ K' (Str.low A V' C' hn hN B hcs hl2))
/-- String.<init>(char[], int, int, Void) of an empty array -/
theorem init4_0 (hEL : EW Z a0 EL) (hmem : ("java/lang/String", 7) ∈ EL) (hw1 : ∀ d ∈ StrChars.Road.words, d.before a0 Z = true) (hw2 : ∀ d ∈ wordsS, d.before a0 Z = true) {x b : Addr} {v0 c0 : Value} (E : Exa Z h x ST) (V : Fld Z h x ST "value" "[B" v0) (C : Fld Z h x ST "coder" "B" c0) :
    Met l Z EL New4.yN New4.yB 6 none { frames := 1, cells := 4, slots := 8, locals := 12 } #[.ref x, .ref b, .int 0, .int 0, .null] h [x] [x] (fun v h' => v = none ∧ Exa Z h' x ST ∧ Fld Z h' x ST "coder" "B" (.int 0) ∧ ∃ t kb, Fld Z h' x ST "value" "[B" (.ref t) ∧ Arv Z h' t kb .byte 0 [] (.int 0)) := by
  have wS : ∀ d ∈ Bundle.stringAtoms, d.before a0 Z = true := fun d q => hw2 d (List.mem_cons_of_mem _ q)
  have wL : (Jvm.Cond.stringLink ST 7 "").before a0 Z = true := hw2 _ (List.mem_cons_self ..)
  have wi : (Jvm.Cond.instantiable ST 4).before a0 Z = true := wS _ (List.mem_of_getElem? (i := 1) rfl)
  have lv : (Jvm.Cond.laysFinal ST ST "value" "[B").before a0 Z = true := hw1 _ (List.mem_of_getElem? (i := 6) rfl)
  have lc : (Jvm.Cond.laysFinal ST ST "coder" "B").before a0 Z = true := hw1 _ (List.mem_of_getElem? (i := 8) rfl)
  have fv : (Jvm.Cond.fieldLink ST 9 ST "value" "[B").before a0 Z = true := hw1 _ (List.mem_of_getElem? (i := 7) rfl)
  have fc : (Jvm.Cond.fieldLink ST 15 ST "coder" "B").before a0 Z = true := hw1 _ (List.mem_of_getElem? (i := 9) rfl)
  refine Met.of (plainFor_of_name pnS) ?_
  intro p e s m below meth c T hnm hret hlk hby hml hs w
  refine Run.cast (ef4 m x b) ?_
  refine s_aload_n w (hb hby New4.d0) rfl rfl (pc' := 1) rfl ?_
  refine w_objInit w (hw1 _ (List.mem_of_getElem? (i := 10) rfl)) (hw1 _ (List.mem_of_getElem? (i := 11) rfl)) (hw1 _ (List.mem_of_getElem? (i := 12) rfl)) (hb hby New4.d1) (by rw [hml]; rfl) (by decide) (W := 0) (by decide) (by decide) (pc' := 4) rfl fun T w => ?_
  refine s_iload_n w (hb hby New4.d4) rfl (pc' := 5) rfl ?_
  refine s_if_ne w (hb hby New4.d5) (by decide) (pc1 := 8) rfl (pc2 := 27) rfl (fun _ => ?_) (fun q => absurd rfl q)
  refine s_aload_n w (hb hby e4_8) rfl rfl (pc' := 9) rfl ?_
  refine w_ldcS w hEL wL wS hmem (vs := []) (z := 0) (n := 0) ⟨by decide, rfl⟩ (by decide) rfl (by decide) (by decide) (hb hby e4_9) (pc' := 11) rfl (by decide) (by decide) fun T h1 q t kb w E1 A1 C1 V1 K1 N1 => ?_
  refine w_getF w fv Via.refl V1 (hb hby e4_11) (pc' := 14) rfl fun T w => ?_
  refine w_putF w fv Via.refl (V.ext E1) (E.ext E1) (Or.inr ⟨lv, rfl, hnm⟩) wi (ty := .array .byte) (by decide) rfl rfl (hb hby e4_14) (Or.inl (List.mem_singleton.mpr rfl)) (Or.inr (List.mem_singleton.mpr rfl)) (pc' := 17) rfl fun T h2 w W2 F2 X2 => ?_
  refine s_aload_n w (hb hby e4_17) rfl rfl (pc' := 18) rfl ?_
  refine w_ldcS w hEL wL wS hmem (vs := []) (z := 0) (n := 0) ⟨by decide, rfl⟩ (by decide) rfl (by decide) (by decide) (hb hby e4_18) (pc' := 20) rfl (by decide) (by decide) fun T h3 q' t' kb' w E3 A3 C3 V3 K3 N3 => ?_
  refine w_getF w fc Via.refl C3 (hb hby e4_20) (pc' := 23) rfl fun T w => ?_
  have ne : t ≠ x := fun z => (N1 x (List.mem_singleton.mpr rfl)).2 z.symm
  have sn : Jvm.RoadKit.slotOf Z ST "value" "[B" ≠ Jvm.RoadKit.slotOf Z ST "coder" "B" := slot_ne (Or.inr lv) (Or.inr lc) (by decide) (t := .array .byte) (t' := .byte) (by decide) (by decide)
  have C2 := (C.ext E1).other W2 (Or.inr sn.symm)
  refine w_putF w fc Via.refl (C2.ext E3) (X2.ext E3) (Or.inr ⟨lc, rfl, hnm⟩) wi (ty := .byte) (by decide) rfl rfl (hb hby e4_23) (Or.inl (List.mem_singleton.mpr rfl)) (Or.inr (List.mem_singleton.mpr rfl)) (pc' := 26) rfl fun T h4 w W4 F4 X4 => ?_
  refine w_return w hEL hs hlk hret (hb hby e4_26) (by decide) (by decide) ⟨rfl, X4, F4, t, kb, (F2.ext E3).other W4 (Or.inr sn), ((K1.other W2 ne).ext E3).other W4 ne⟩
theorem init1_0 (hEL : EW Z a0 EL) (hmem : ("java/lang/String", 7) ∈ EL) (hw1 : ∀ d ∈ StrChars.Road.words, d.before a0 Z = true) (hw2 : ∀ d ∈ wordsS, d.before a0 Z = true) {x b : Addr} {v0 c0 : Value} (E : Exa Z h x ST) (V : Fld Z h x ST "value" "[B" v0) (C : Fld Z h x ST "coder" "B" c0) {ka : ClassId} {vs : List Value} {dv : Value} (K : Arv Z h b ka .char 0 vs dv) :
    Met l Z EL New1.yN New1.yB 2 none { frames := 2, cells := 4, slots := 8, locals := 29 } #[.ref x, .ref b] h [x] [x] (fun v h' => v = none ∧ Exa Z h' x ST ∧ Fld Z h' x ST "coder" "B" (.int 0) ∧ ∃ t kb, Fld Z h' x ST "value" "[B" (.ref t) ∧ Arv Z h' t kb .byte 0 [] (.int 0)) := by
  refine Met.of (plainFor_of_name pnS) ?_
  intro p e s m below meth c T hnm hret hlk hby hml hs w
  refine Run.cast (ef1 m x b) ?_
  refine s_aload_n w (hb hby New1.d0) rfl rfl (pc' := 1) rfl ?_
  refine s_aload_n w (hb hby New1.d1) rfl rfl (pc' := 2) rfl ?_
  refine s_iconst w (hb hby New1.d2) (v := 0) rfl (pc' := 3) rfl ?_
  refine s_aload_n w (hb hby New1.d3) rfl rfl (pc' := 4) rfl ?_
  refine w_len w K (hb hby New1.d4) (pc' := 5) rfl ?_
  refine s_anull w (hb hby New1.d5) (pc' := 6) rfl ?_
  refine w_special w hEL (y := New4.yN) rfl (hw1 _ (List.mem_of_getElem? (i := 2) rfl)) (hw1 _ (List.mem_of_getElem? (i := 3) rfl)) (hw1 _ (List.mem_of_getElem? (i := 1) rfl)) (hw1 _ (List.mem_of_getElem? (i := 4) rfl)) (by decide) (init4_0 (b := b) hEL hmem hw1 hw2 E V C) (fun _ q => q) (fun _ q => Or.inl q) (argsL := [.ref b, .int 0, .int 0, .null]) (rest := []) (lenOf (by decide +kernel : parseMethodDescriptor "([CIILjava/lang/Void;)V" = some ⟨[.array .char, .int, .int, .object "java/lang/Void"], none⟩) rfl) rfl rfl (hb hby New1.d6) (by rw [hml]; rfl) (W := 0) (by decide) (by decide) (by decide) (by decide) (by decide) (pc' := 9) rfl fun v T h' w K' P' => ?_
  obtain ⟨rfl, q⟩ := P'
  exact w_return w hEL hs hlk hret (hb hby New1.d9) (by decide) (by decide) ⟨rfl, q⟩
/-- new String(char[]): the constructor's call, of no sign or of up to 4,000 signs below 256 -/
theorem w_strInit (w : Wk p l e R s m args below meth c Z EL own h0 ws T h cells slots S) (hEL : EW Z a0 EL) (hmem : ("java/lang/String", 7) ∈ EL) (hw1 : ∀ d ∈ StrChars.Road.words, d.before a0 Z = true) (hw2 : ∀ d ∈ wordsS, d.before a0 Z = true) {index : Nat} (wl : (Jvm.Cond.methodLink own index New1.yN).before a0 Z = true) (wm : (Jvm.Cond.instanceMethod New1.yN).before a0 Z = true)
    {b : Addr} {v0 c0 : Value} {ka : ClassId} {N zc : Int32} {n W : Nat} {dv : Value} (E : Exa Z h x ST) (V : Fld Z h x ST "value" "[B" v0) (C : Fld Z h x ST "coder" "B" c0) (K : Arv Z h b ka .char N (cs.map Value.int) dv) (SC : Sta Z Z.heap ST "COMPACT_STRINGS" "Z" (.int zc)) (hz : ¬ zc = 0)
    (hn : cs.length = n) (hN : N = Int32.ofNat n) (hl2 : n ≤ 4000) (hcs : ∀ c ∈ cs, ¬ c < 0 ∧ ¬ (255 : Int32) < c) (hxS : x ∈ S) (hx0 : x ∈ ws ∨ h0.size ≤ x) (hZx : Z.heap.size ≤ x) (hd : decode c.code pc = .ok (.invokespecial index, 3)) (hsz : Ls.size = c.maxLocals) (hW : (rest.map fun v => v.category).sum ≤ W) (hf : 4 ≤ R.frames) (hl : W + 65 ≤ R.locals) (hc : cells + 4 ≤ R.cells) (hsl : slots + (n + 8) ≤ R.slots) (hp : pc + 3 = pc')
    (k : ∀ T' h', Wk p l e R s m args below meth c Z EL own h0 ws T' h' (cells + 4) (slots + (n + 8)) S → Keep h h' [x] → Str Z h' x cs → Run p e below Q T' (mkF m pc' Ls rest)) : Run p e below Q T (mkF m pc Ls (.ref b :: .ref x :: rest)) := by
  by_cases h0n : n = 0
  · subst h0n
    obtain rfl : cs = [] := List.eq_nil_of_length_eq_zero hn
    subst hN
    refine w_special w hEL (y := New1.yN) rfl wl wm (hw1 _ (List.mem_of_getElem? (i := 1) rfl)) (hw1 _ (List.mem_of_getElem? (i := 0) rfl)) (by decide) (init1_0 hEL hmem hw1 hw2 E V C K) (fun y q => by rw [List.mem_singleton.mp q]; exact hxS) (fun y q => by rw [List.mem_singleton.mp q]; exact hx0) (argsL := [.ref b]) (rest := rest) (lenOf (by decide +kernel : parseMethodDescriptor "([C)V" = some ⟨[.array .char], none⟩) rfl) rfl rfl hd hsz (W := W) hW (by show 2 + 1 ≤ _; omega) (by show W + (2 + 11) + 29 ≤ _; omega) hc (by show slots + 8 ≤ _; omega) hp fun v T' h' w' K' P' => ?_
    obtain ⟨rfl, A, C', t, kb, V', B⟩ := P'
    exact k T' h' (w'.mono (Nat.le_refl _) (by show slots + 8 ≤ slots + (0 + 8); omega)) K' (Str.low A V' C' rfl rfl B hcs (by decide))
  · exact w_strInitP w hw1 (hw2 _ (List.mem_of_getElem? (i := 2) rfl)) wl wm E V C K SC hz hn hN (Nat.pos_of_ne_zero h0n) hl2 hcs hxS hx0 hZx hd hsz hW hf hl (by omega) (by omega) hp fun T' h' w' => k T' h' (w'.mono (by omega) (by omega))
end StrK
end Ow
end Jvm.Pilot.@@N@@

namespace Jvm.Pilot.@@N@@
open Jvm Jvm.ClassFile Sem Op Lib Jvm.Free Jvm.Stand Jvm.LawKit Jvm.RoadKit Bundle Jvm.Pilot.@@N@@.Jvm.D
namespace Ow
open StrChars StrChars.Road

/-! plain facts on ints -/
def Lat (c : Int32) : Prop := ¬ c < 0 ∧ ¬ (255 : Int32) < c
theorem i32_0 : (0 : Int32).toInt = 0 := by decide
theorem i32_255 : (255 : Int32).toInt = 255 := by decide
theorem lat_iff {c : Int32} : Lat c ↔ 0 ≤ c.toInt ∧ c.toInt ≤ 255 := by
  unfold Lat
  rw [Int32.lt_iff_toInt_lt, Int32.lt_iff_toInt_lt, i32_0, i32_255]
  omega
theorem nar_char (x : Int32) : nar .char x = x.toUInt32.toUInt16.toUInt32.toInt32 := rfl
theorem nar_id {c : Int32} (h : 0 ≤ c.toInt ∧ c.toInt < 65536) : nar .char c = c := by
  have q := c_i2c c
  rw [← nar_char] at q
  rw [← Int32.toInt_inj]
  omega
theorem Lat.nar {c : Int32} (h : Lat c) : nar .char c = c := nar_id (by have := lat_iff.mp h; omega)
theorem lat_mask (x : Int32) : Lat (Jvm.RoadKit.nar .char (x &&& 255)) := by
  have q := c_i2c (x &&& 255)
  rw [← nar_char] at q
  have m := c_mask x 255 8 (by decide) (by decide)
  rw [lat_iff]
  omega
theorem mask_le (x : Int32) (m : Int32) (k : Nat) (hk : k ≤ 31) (hm : m.toBitVec.toNat = 2 ^ k - 1) : 0 ≤ (x &&& m).toInt ∧ (x &&& m).toInt < (2 ^ k : Nat) := by
  rw [c_mask x m k hk hm]
  have : (0 : Int) < (2 ^ k : Nat) := by exact_mod_cast Nat.pos_of_ne_zero (by simp)
  exact ⟨Int.emod_nonneg _ (by omega), Int.emod_lt_of_pos _ this⟩
theorem toInt_eq {x y : Int32} {n : Int} (h : x.toInt = n) (hy : y.toInt = n) : x = y := Int32.toInt_inj.mp (h.trans hy.symm)
theorem and3 (x : Int32) : x &&& 3 = 0 ∨ x &&& 3 = 1 ∨ x &&& 3 = 2 ∨ x &&& 3 = 3 := by
  have m := mask_le x 3 2 (by decide) (by decide)
  have h : (x &&& 3).toInt = 0 ∨ (x &&& 3).toInt = 1 ∨ (x &&& 3).toInt = 2 ∨ (x &&& 3).toInt = 3 := by omega
  rcases h with h | h | h | h
  · exact Or.inl (toInt_eq h (by decide))
  · exact Or.inr (Or.inl (toInt_eq h (by decide)))
  · exact Or.inr (Or.inr (Or.inl (toInt_eq h (by decide))))
  · exact Or.inr (Or.inr (Or.inr (toInt_eq h (by decide))))
theorem rem3 (x : Int32) : (x &&& 3) % 3 = 0 ∨ (x &&& 3) % 3 = 1 ∨ (x &&& 3) % 3 = 2 := by
  rcases and3 x with h | h | h | h <;> rw [h] <;> decide
theorem ne_int {args : Array Value} {s : State} {t : Term} {n x : Int32} (ht : t.eval args s none [] s = some (.int x)) (h : (Jvm.Cond.not (.eq t (.int n))).before args s = true) : ¬ x = n := by
  intro q; subst q
  have h1 := not_v (Cond.before_iff.mp h)
  have hi : (Term.int x).eval args s none [] s = some (.int x) := rfl
  simp only [Jvm.Cond.value, ht, hi] at h1
  simp at h1
theorem eq_int {args : Array Value} {s : State} {t : Term} {n : Int32} (h : (Jvm.Cond.eq t (.int n)).value args s none s [] = some true) : t.eval args s none [] s = some (.int n) := by
  cases ht : t.eval args s none [] s with
  | none => simp [Jvm.Cond.value, ht] at h
  | some v => cases v <;> simp [Jvm.Cond.value, ht, Term.eval] at h ⊢; exact h
theorem flag {e : Int32} {A : Prop} (h : (e = 1 ∧ A) ∨ (e = 0 ∧ ¬ A)) : ¬ e = 0 ↔ A := by
  rcases h with ⟨rfl, q⟩ | ⟨rfl, q⟩
  · exact ⟨fun _ => q, fun _ => by decide⟩
  · exact ⟨fun z => absurd rfl z, fun z => absurd z q⟩
theorem val {e f : Int32} {A B : Prop} [Decidable B] (h : (e = 1 ∧ A) ∨ (e = 0 ∧ ¬ A)) (hf : (if B then (1 : Int32) else 0) = f) (hab : B ↔ A) : f = e := by
  rw [← hf]
  rcases h with ⟨rfl, q⟩ | ⟨rfl, q⟩
  · exact if_pos (hab.mpr q)
  · exact if_neg fun z => q (hab.mp z)

theorem sub1 : ∀ d ∈ StrChars.Road.words, d ∈ tables_1 := by decide +kernel
theorem subA : ∀ d ∈ Bundle.stringAtoms, d ∈ tables_1 := by decide +kernel
theorem sub2 : ∀ d ∈ wordsS, d ∈ tables_1 := by decide +kernel
theorem hmem : ("java/lang/String", 7) ∈ consts_1 := by decide
def Gl (Z : State) (a0 : Array Value) (zc : Int32)  : Prop :=
  (∀ d ∈ tables_1, d.before a0 Z = true) ∧ EW Z a0 consts_1 ∧ Sta Z Z.heap ST "COMPACT_STRINGS" "Z" (.int zc) ∧ ¬ zc = 0
theorem subL : ∀ d ∈ StrChars.Road.wordsLen, d ∈ tables_1 := by decide +kernel
theorem lo8_inj {x y : Int32} (h0 : ¬ x < 0) (h1 : ¬ 255 < x) (k0 : ¬ y < 0) (k1 : ¬ 255 < y) (h : lo8 x = lo8 y) : x = y := by
  have a := lat_iff.mp ⟨h0, h1⟩
  have b := lat_iff.mp ⟨k0, k1⟩
  have p := c_i2b x
  have q := c_i2b y
  have e : x.toInt8.toInt32.toInt = y.toInt8.toInt32.toInt := congrArg Int32.toInt h
  rw [← Int32.toInt_inj]
  omega
theorem Str.lat {Z : State} {h : Heap} {x : Addr} {cs : List Int32} (F : Str Z h x cs) (hc : ∀ c ∈ cs, Lat c) : ∃ t kb, Fld Z h x ST "value" "[B" (.ref t) ∧ Fld Z h x ST "coder" "B" (.int 0) ∧ Arv Z h t kb .byte (Int32.ofNat cs.length) (cs.map fun c => Value.int (lo8 c)) (.int 0) ∧ cs.length ≤ 4000 := by
  obtain ⟨a, t, kb, cd, N2, vs, q1, q2, q3, q4, q5, q6⟩ := F
  rcases q4 with ⟨rfl, rfl, rfl, -⟩ | ⟨-, -, -, c, z1, z2⟩
  · exact ⟨t, kb, q1, q2, q3, q6⟩
  · exact absurd z2 (hc c z1).2
theorem ofNat_lt {n : Nat} (h : n ≤ 4000) : ¬ (Int32.ofNat n) < 0 := by
  rw [Int32.lt_iff_toInt_lt, Int32.toInt_ofNat_of_lt (by omega), i32_0]; omega
theorem ofNat_nat {n : Nat} (h : n ≤ 4000) : (Int32.ofNat n).toNatClampNeg = n := by
  show (Int32.ofNat n).toInt.toNat = n
  rw [Int32.toInt_ofNat_of_lt (by omega)]; rfl
theorem ofNat_cmp {n k : Nat} (h : n ≤ 4000) (h' : k ≤ 4000) : Int32.ofNat n < Int32.ofNat k ↔ n < k := by
  rw [Int32.lt_iff_toInt_lt, Int32.toInt_ofNat_of_lt (by omega), Int32.toInt_ofNat_of_lt (by omega)]; omega
theorem ofNat_succ (n : Nat) : Int32.ofNat n + 1 = Int32.ofNat (n + 1) := by
  rw [Int32.ofNat_add]; rfl

theorem disL1_0 : decode jdk_42_method_154_code 0 = .ok (.getstatic 38, 3) := by decide +kernel
theorem disL1_3 : decode jdk_42_method_154_code 3 = .ok (.ifCond .eq 14, 3) := by decide +kernel
theorem disL1_6 : decode jdk_42_method_154_code 6 = .ok (.aload_n 0, 1) := by decide +kernel
theorem disL1_7 : decode jdk_42_method_154_code 7 = .ok (.getfield 15, 3) := by decide +kernel
theorem disL1_10 : decode jdk_42_method_154_code 10 = .ok (.ifCond .ne 7, 3) := by decide +kernel
theorem disL1_13 : decode jdk_42_method_154_code 13 = .ok (.iconst 1, 1) := by decide +kernel
theorem disL1_14 : decode jdk_42_method_154_code 14 = .ok (.goto 4, 3) := by decide +kernel
theorem disL1_17 : decode jdk_42_method_154_code 17 = .ok (.iconst 0, 1) := by decide +kernel
theorem disL1_18 : decode jdk_42_method_154_code 18 = .ok (.ireturn, 1) := by decide +kernel
theorem pn_0 : plainName "java/lang/String" = true := by first | (simp [plainName, overriddenIn]; done) | decide +kernel
theorem ef_isL1 (m : MethodId) (x : Addr) : entryFrame m #[.ref x] 1 = mkF m 0 #[.val (.ref x)] [] := by first | (simp [entryFrame, mkF, argsToLocals, Value.category]; done) | rfl
set_option maxRecDepth 65536 in
set_option maxHeartbeats 40000000 in
theorem rm_isL1 {l : Launch} {Z : State} {a0 : Array Value} {zc : Int32}  (G : Gl Z a0 zc ) (h : Heap) (x : Addr) (C : Fld Z h x ST "coder" "B" (.int 0)) :
    Met l Z consts_1 (⟨"java/lang/String", "isLatin1", "()Z"⟩ : MethodName) jdk_42_method_154_code 1 (some .boolean) ({ frames := 0, cells := 0, slots := 0, locals := 0 } : Room) #[.ref x] h [] [] (fun v h' => v = some (.int 1) ∧ h = h') := by
  have G0 := G
  obtain ⟨hw, hEL, SC, hz⟩ := G
  have hw1 : ∀ d ∈ StrChars.Road.words, d.before a0 Z = true := fun d q => hw d (sub1 d q)
  have hwA : ∀ d ∈ Bundle.stringAtoms, d.before a0 Z = true := fun d q => hw d (subA d q)
  have hw2 : ∀ d ∈ wordsS, d.before a0 Z = true := fun d q => hw d (sub2 d q)
  refine Met.of (plainFor_of_name pn_0) ?_
  intro p e s m below meth c T hnm hret hlk hby hml hs w
  have hZ0 := w.old
  refine Run.cast (ef_isL1 m x) ?_
  refine w_getS w (hw _ (List.mem_of_getElem? (i := 18) rfl)) Via.refl (SC.ext w.old) (hb hby disL1_0) (pc' := 3) rfl fun T w => ?_
  refine s_if_eq w (hb hby disL1_3) (by decide) (pc1 := 6) rfl (pc2 := 17) rfl (fun ct1 => ?_) (fun ct1 => ?_)
  · -- ¬ (zc = 0)
    refine s_aload_n w (hb hby disL1_6) rfl rfl (pc' := 7) rfl ?_
    refine w_getF w (hw _ (List.mem_of_getElem? (i := 30) rfl)) Via.refl C (hb hby disL1_7) (pc' := 10) rfl fun T w => ?_
    refine s_if_ne w (hb hby disL1_10) (by decide) (pc1 := 13) rfl (pc2 := 17) rfl (fun _ => ?_) (fun q => absurd q (by decide))
    refine s_iconst w (hb hby disL1_13) (v := 1) rfl (pc' := 14) rfl ?_
    refine s_goto w (hb hby disL1_14) (by decide) (pc' := 18) rfl ?_
    exact w_ireturn w hEL hs hlk hret rfl (Or.inr (Or.inl rfl)) (hb hby disL1_18) (by decide) (by decide) ⟨rfl, rfl⟩
  · -- zc = 0
    refine s_iconst w (hb hby disL1_17) (v := 0) rfl (pc' := 18) rfl ?_
    exact absurd ct1 hz
theorem dmax_0 : decode jdk_29_method_65_code 0 = .ok (.iload_n 0, 1) := by decide +kernel
theorem dmax_1 : decode jdk_29_method_65_code 1 = .ok (.iload_n 1, 1) := by decide +kernel
theorem dmax_2 : decode jdk_29_method_65_code 2 = .ok (.if_icmp .lt 7, 3) := by decide +kernel
theorem dmax_5 : decode jdk_29_method_65_code 5 = .ok (.iload_n 0, 1) := by decide +kernel
theorem dmax_6 : decode jdk_29_method_65_code 6 = .ok (.goto 4, 3) := by decide +kernel
theorem dmax_9 : decode jdk_29_method_65_code 9 = .ok (.iload_n 1, 1) := by decide +kernel
theorem dmax_10 : decode jdk_29_method_65_code 10 = .ok (.ireturn, 1) := by decide +kernel
theorem ef_max (m : MethodId) (x : Int32) (y : Int32) : entryFrame m #[.int x, .int y] 2 = mkF m 0 #[.val (.int x), .val (.int y)] [] := by first | (simp [entryFrame, mkF, argsToLocals, Value.category]; done) | rfl
set_option maxRecDepth 65536 in
set_option maxHeartbeats 40000000 in
theorem rm_max {l : Launch} {Z : State} {a0 : Array Value} {zc : Int32}  (G : Gl Z a0 zc ) (h : Heap) (x : Int32) (y : Int32)  :
    Met l Z consts_1 (⟨"java/lang/Math", "max", "(II)I"⟩ : MethodName) jdk_29_method_65_code 2 (some .int) ({ frames := 0, cells := 0, slots := 0, locals := 0 } : Room) #[.int x, .int y] h [] [] (fun v h' => v = some (.int (if x < y then y else x)) ∧ h = h') := by
  have G0 := G
  obtain ⟨hw, hEL, SC, hz⟩ := G
  have hw1 : ∀ d ∈ StrChars.Road.words, d.before a0 Z = true := fun d q => hw d (sub1 d q)
  have hwA : ∀ d ∈ Bundle.stringAtoms, d.before a0 Z = true := fun d q => hw d (subA d q)
  have hw2 : ∀ d ∈ wordsS, d.before a0 Z = true := fun d q => hw d (sub2 d q)
  refine Met.of (by decide +kernel) ?_
  intro p e s m below meth c T hnm hret hlk hby hml hs w
  have hZ0 := w.old
  refine Run.cast (ef_max m x y) ?_
  refine s_iload_n w (hb hby dmax_0) rfl (pc' := 1) rfl ?_
  refine s_iload_n w (hb hby dmax_1) rfl (pc' := 2) rfl ?_
  refine s_icmp_lt w (hb hby dmax_2) (by decide) (pc1 := 5) rfl (pc2 := 9) rfl (fun ct1 => ?_) (fun ct1 => ?_)
  · -- ¬ (x < y)
    refine s_iload_n w (hb hby dmax_5) rfl (pc' := 6) rfl ?_
    refine s_goto w (hb hby dmax_6) (by decide) (pc' := 10) rfl ?_
    exact w_ireturn w hEL hs hlk hret rfl (Or.inl rfl) (hb hby dmax_10) (by decide) (by decide) ⟨by rw [if_neg ct1], rfl⟩
  · -- x < y
    refine s_iload_n w (hb hby dmax_9) rfl (pc' := 10) rfl ?_
    exact w_ireturn w hEL hs hlk hret rfl (Or.inl rfl) (hb hby dmax_10) (by decide) (by decide) ⟨by rw [if_pos ct1], rfl⟩
theorem dmin_0 : decode jdk_29_method_69_code 0 = .ok (.iload_n 0, 1) := by decide +kernel
theorem dmin_1 : decode jdk_29_method_69_code 1 = .ok (.iload_n 1, 1) := by decide +kernel
theorem dmin_2 : decode jdk_29_method_69_code 2 = .ok (.if_icmp .gt 7, 3) := by decide +kernel
theorem dmin_5 : decode jdk_29_method_69_code 5 = .ok (.iload_n 0, 1) := by decide +kernel
theorem dmin_6 : decode jdk_29_method_69_code 6 = .ok (.goto 4, 3) := by decide +kernel
theorem dmin_9 : decode jdk_29_method_69_code 9 = .ok (.iload_n 1, 1) := by decide +kernel
theorem dmin_10 : decode jdk_29_method_69_code 10 = .ok (.ireturn, 1) := by decide +kernel
theorem ef_min (m : MethodId) (x : Int32) (y : Int32) : entryFrame m #[.int x, .int y] 2 = mkF m 0 #[.val (.int x), .val (.int y)] [] := by first | (simp [entryFrame, mkF, argsToLocals, Value.category]; done) | rfl
set_option maxRecDepth 65536 in
set_option maxHeartbeats 40000000 in
theorem rm_min {l : Launch} {Z : State} {a0 : Array Value} {zc : Int32}  (G : Gl Z a0 zc ) (h : Heap) (x : Int32) (y : Int32)  :
    Met l Z consts_1 (⟨"java/lang/Math", "min", "(II)I"⟩ : MethodName) jdk_29_method_69_code 2 (some .int) ({ frames := 0, cells := 0, slots := 0, locals := 0 } : Room) #[.int x, .int y] h [] [] (fun v h' => v = some (.int (if y < x then y else x)) ∧ h = h') := by
  have G0 := G
  obtain ⟨hw, hEL, SC, hz⟩ := G
  have hw1 : ∀ d ∈ StrChars.Road.words, d.before a0 Z = true := fun d q => hw d (sub1 d q)
  have hwA : ∀ d ∈ Bundle.stringAtoms, d.before a0 Z = true := fun d q => hw d (subA d q)
  have hw2 : ∀ d ∈ wordsS, d.before a0 Z = true := fun d q => hw d (sub2 d q)
  refine Met.of (by decide +kernel) ?_
  intro p e s m below meth c T hnm hret hlk hby hml hs w
  have hZ0 := w.old
  refine Run.cast (ef_min m x y) ?_
  refine s_iload_n w (hb hby dmin_0) rfl (pc' := 1) rfl ?_
  refine s_iload_n w (hb hby dmin_1) rfl (pc' := 2) rfl ?_
  refine s_icmp_gt w (hb hby dmin_2) (by decide) (pc1 := 5) rfl (pc2 := 9) rfl (fun ct1 => ?_) (fun ct1 => ?_)
  · -- ¬ (y < x)
    refine s_iload_n w (hb hby dmin_5) rfl (pc' := 6) rfl ?_
    refine s_goto w (hb hby dmin_6) (by decide) (pc' := 10) rfl ?_
    exact w_ireturn w hEL hs hlk hret rfl (Or.inl rfl) (hb hby dmin_10) (by decide) (by decide) ⟨by rw [if_neg ct1], rfl⟩
  · -- y < x
    refine s_iload_n w (hb hby dmin_9) rfl (pc' := 10) rfl ?_
    exact w_ireturn w hEL hs hlk hret rfl (Or.inl rfl) (hb hby dmin_10) (by decide) (by decide) ⟨by rw [if_pos ct1], rfl⟩
theorem dcanI_0 : decode jdk_43_method_4_code 0 = .ok (.iload_n 0, 1) := by decide +kernel
theorem dcanI_1 : decode jdk_43_method_4_code 1 = .ok (.ifCond .lt 14, 3) := by decide +kernel
theorem dcanI_4 : decode jdk_43_method_4_code 4 = .ok (.iload_n 0, 1) := by decide +kernel
theorem dcanI_5 : decode jdk_43_method_4_code 5 = .ok (.sipush 255, 3) := by decide +kernel
theorem dcanI_8 : decode jdk_43_method_4_code 8 = .ok (.if_icmp .gt 7, 3) := by decide +kernel
theorem dcanI_11 : decode jdk_43_method_4_code 11 = .ok (.iconst 1, 1) := by decide +kernel
theorem dcanI_12 : decode jdk_43_method_4_code 12 = .ok (.goto 4, 3) := by decide +kernel
theorem dcanI_15 : decode jdk_43_method_4_code 15 = .ok (.iconst 0, 1) := by decide +kernel
theorem dcanI_16 : decode jdk_43_method_4_code 16 = .ok (.ireturn, 1) := by decide +kernel
theorem pn_1 : plainName "java/lang/StringLatin1" = true := by first | (simp [plainName, overriddenIn]; done) | decide +kernel
theorem ef_canI (m : MethodId) (c0 : Int32) : entryFrame m #[.int c0] 1 = mkF m 0 #[.val (.int c0)] [] := by first | (simp [entryFrame, mkF, argsToLocals, Value.category]; done) | rfl
set_option maxRecDepth 65536 in
set_option maxHeartbeats 40000000 in
theorem rm_canI {l : Launch} {Z : State} {a0 : Array Value} {zc : Int32}  (G : Gl Z a0 zc ) (h : Heap) (c0 : Int32) (lc0 : Lat c0) :
    Met l Z consts_1 (⟨"java/lang/StringLatin1", "canEncode", "(I)Z"⟩ : MethodName) jdk_43_method_4_code 1 (some .boolean) ({ frames := 0, cells := 0, slots := 0, locals := 0 } : Room) #[.int c0] h [] [] (fun v h' => v = some (.int 1) ∧ h = h') := by
  have G0 := G
  obtain ⟨hw, hEL, SC, hz⟩ := G
  have hw1 : ∀ d ∈ StrChars.Road.words, d.before a0 Z = true := fun d q => hw d (sub1 d q)
  have hwA : ∀ d ∈ Bundle.stringAtoms, d.before a0 Z = true := fun d q => hw d (subA d q)
  have hw2 : ∀ d ∈ wordsS, d.before a0 Z = true := fun d q => hw d (sub2 d q)
  refine Met.of (plainFor_of_name pn_1) ?_
  intro p e s m below meth c T hnm hret hlk hby hml hs w
  have hZ0 := w.old
  refine Run.cast (ef_canI m c0) ?_
  refine s_iload_n w (hb hby dcanI_0) rfl (pc' := 1) rfl ?_
  refine s_if_lt w (hb hby dcanI_1) (by decide) (pc1 := 4) rfl (pc2 := 15) rfl (fun ct1 => ?_) (fun ct1 => ?_)
  · -- ¬ (c0 < 0)
    refine s_iload_n w (hb hby dcanI_4) rfl (pc' := 5) rfl ?_
    refine s_sipush w (hb hby dcanI_5) (v := 255) rfl (pc' := 8) rfl ?_
    refine s_icmp_gt w (hb hby dcanI_8) (by decide) (pc1 := 11) rfl (pc2 := 15) rfl (fun ct2 => ?_) (fun ct2 => ?_)
    · -- ¬ (255 < c0)
      refine s_iconst w (hb hby dcanI_11) (v := 1) rfl (pc' := 12) rfl ?_
      refine s_goto w (hb hby dcanI_12) (by decide) (pc' := 16) rfl ?_
      exact w_ireturn w hEL hs hlk hret rfl (Or.inr (Or.inl rfl)) (hb hby dcanI_16) (by decide) (by decide) ⟨rfl, rfl⟩
    · -- 255 < c0
      refine s_iconst w (hb hby dcanI_15) (v := 0) rfl (pc' := 16) rfl ?_
      exact absurd ct2 lc0.2
  · -- c0 < 0
    refine s_iconst w (hb hby dcanI_15) (v := 0) rfl (pc' := 16) rfl ?_
    exact absurd ct1 lc0.1
theorem lo8_eq {x y : Int32} (hx : Lat x) (hy : Lat y) : lo8 x = lo8 y ↔ x = y := ⟨fun q => lo8_inj hx.1 hx.2 hy.1 hy.2 q, fun q => by rw [q]⟩
theorem map_getD {cs : List Int32} {j : Nat} (h : j < cs.length) : (cs.map fun c => Value.int (lo8 c)).getD j (.int 0) = .int (lo8 (cs.getD j 0)) := by
  simp [List.getD, h]
def NoSign (cs : List Int32) (c0 : Int32) (j : Nat) : Prop := ∀ i, i < j → ¬ cs.getD i 0 = c0
theorem NoSign.step {cs : List Int32} {c0 : Int32} {j : Nat} (h : NoSign cs c0 j) (q : ¬ cs.getD j 0 = c0) : NoSign cs c0 (j + 1) := fun i hi => by
  rcases Nat.lt_succ_iff_lt_or_eq.mp hi with z | rfl
  · exact h i z
  · exact q
theorem noSign_iff {cs : List Int32} {c0 : Int32} : NoSign cs c0 cs.length ↔ c0 ∉ cs := by
  constructor
  · intro h q
    obtain ⟨i, hi, e⟩ := List.mem_iff_getElem.mp q
    exact h i hi (by simp [List.getD, hi, e])
  · intro h i hi q
    exact h (by rw [← q]; simp [List.getD, hi])
theorem getD_mem {cs : List Int32} {j : Nat} (h : j < cs.length) : cs.getD j 0 ∈ cs := by simp [List.getD, h]
theorem dixc_0 : decode jdk_43_method_23_code 0 = .ok (.iload_n 1, 1) := by decide +kernel
theorem dixc_1 : decode jdk_43_method_23_code 1 = .ok (.i2b, 1) := by decide +kernel
theorem dixc_2 : decode jdk_43_method_23_code 2 = .ok (.istore 4, 2) := by decide +kernel
theorem dixc_4 : decode jdk_43_method_23_code 4 = .ok (.iload_n 2, 1) := by decide +kernel
theorem dixc_5 : decode jdk_43_method_23_code 5 = .ok (.istore 5, 2) := by decide +kernel
theorem dixc_7 : decode jdk_43_method_23_code 7 = .ok (.iload 5, 2) := by decide +kernel
theorem dixc_9 : decode jdk_43_method_23_code 9 = .ok (.iload_n 3, 1) := by decide +kernel
theorem dixc_10 : decode jdk_43_method_23_code 10 = .ok (.if_icmp .ge 21, 3) := by decide +kernel
theorem dixc_13 : decode jdk_43_method_23_code 13 = .ok (.aload_n 0, 1) := by decide +kernel
theorem dixc_14 : decode jdk_43_method_23_code 14 = .ok (.iload 5, 2) := by decide +kernel
theorem dixc_16 : decode jdk_43_method_23_code 16 = .ok (.baload, 1) := by decide +kernel
theorem dixc_17 : decode jdk_43_method_23_code 17 = .ok (.iload 4, 2) := by decide +kernel
theorem dixc_19 : decode jdk_43_method_23_code 19 = .ok (.if_icmp .ne 6, 3) := by decide +kernel
theorem dixc_22 : decode jdk_43_method_23_code 22 = .ok (.iload 5, 2) := by decide +kernel
theorem dixc_24 : decode jdk_43_method_23_code 24 = .ok (.ireturn, 1) := by decide +kernel
theorem dixc_25 : decode jdk_43_method_23_code 25 = .ok (.iinc 5 1, 3) := by decide +kernel
theorem dixc_28 : decode jdk_43_method_23_code 28 = .ok (.goto (-21), 3) := by decide +kernel
theorem dixc_31 : decode jdk_43_method_23_code 31 = .ok (.iconst (-1), 1) := by decide +kernel
theorem dixc_32 : decode jdk_43_method_23_code 32 = .ok (.ireturn, 1) := by decide +kernel
theorem ef_ixc (m : MethodId) (t : Addr) (c0 : Int32) (N : Int32) : entryFrame m #[.ref t, .int c0, .int 0, .int N] 6 = mkF m 0 #[.val (.ref t), .val (.int c0), .val (.int 0), .val (.int N), .unset, .unset] [] := by first | (simp [entryFrame, mkF, argsToLocals, Value.category]; done) | rfl
set_option maxRecDepth 65536 in
set_option maxHeartbeats 40000000 in
theorem rm_ixc {l : Launch} {Z : State} {a0 : Array Value} {zc : Int32}  (G : Gl Z a0 zc ) (h : Heap) (t : Addr) (c0 : Int32) (N : Int32) (kb : ClassId) (cs : List Int32) (K : Arv Z h t kb .byte N (cs.map fun c => Value.int (lo8 c)) (.int 0)) (hNn : N = Int32.ofNat cs.length) (hl : cs.length ≤ 4000) (hcs : ∀ c ∈ cs, Lat c) (lc0 : Lat c0) :
    Met l Z consts_1 (⟨"java/lang/StringLatin1", "indexOfChar", "([BIII)I"⟩ : MethodName) jdk_43_method_23_code 6 (some .int) ({ frames := 0, cells := 0, slots := 0, locals := 0 } : Room) #[.ref t, .int c0, .int 0, .int N] h [] [] (fun v h' => ∃ r : Int32, v = some (.int r) ∧ h = h' ∧ (r < 0 ↔ c0 ∉ cs)) := by
  have G0 := G
  obtain ⟨hw, hEL, SC, hz⟩ := G
  have hw1 : ∀ d ∈ StrChars.Road.words, d.before a0 Z = true := fun d q => hw d (sub1 d q)
  have hwA : ∀ d ∈ Bundle.stringAtoms, d.before a0 Z = true := fun d q => hw d (subA d q)
  have hw2 : ∀ d ∈ wordsS, d.before a0 Z = true := fun d q => hw d (sub2 d q)
  refine Met.of (plainFor_of_name pn_1) ?_
  intro p e s m below meth c T hnm hret hlk hby hml hs w
  have hZ0 := w.old
  refine Run.cast (ef_ixc m t c0 N) ?_
  refine s_iload_n w (hb hby dixc_0) rfl (pc' := 1) rfl ?_
  refine s_i2b w (hb hby dixc_1) (pc' := 2) rfl ?_
  generalize hv1 : (c0.toInt8.toInt32 : Int32) = v1
  refine s_istore w #[.val (.ref t), .val (.int c0), .val (.int 0), .val (.int N), .val (.int v1), .unset] (hb hby dixc_2) rfl (pc' := 4) rfl ?_
  refine s_iload_n w (hb hby dixc_4) rfl (pc' := 5) rfl ?_
  refine s_istore w #[.val (.ref t), .val (.int c0), .val (.int 0), .val (.int N), .val (.int v1), .val (.int 0)] (hb hby dixc_5) rfl (pc' := 7) rfl ?_
  suffices H : ∀ k j, j + k = cs.length → NoSign cs c0 j → Run p e below (Qm Z consts_1 s h [] _ _) T (mkF m 7 #[.val (.ref t), .val (.int c0), .val (.int 0), .val (.int N), .val (.int v1), .val (.int (Int32.ofNat j))] []) from H cs.length 0 (Nat.zero_add _) (fun i q => absurd q (Nat.not_lt_zero i))
  intro k
  induction k with
  | zero =>
    intro j hj hN
    obtain rfl : j = cs.length := hj
    refine s_iload w (hb hby dixc_7) rfl (pc' := 9) rfl ?_
    refine s_iload_n w (hb hby dixc_9) rfl (pc' := 10) rfl ?_
    refine s_icmp_ge w (hb hby dixc_10) (by decide) (pc1 := 13) rfl (pc2 := 31) rfl (fun ct2 => ?_) (fun ct2 => ?_)
    · exact absurd ct2 (by rw [hNn]; exact Int32.lt_irrefl)
    · skip
      refine s_iconst w (hb hby dixc_31) (v := (-1)) rfl (pc' := 32) rfl ?_
      exact w_ireturn w hEL hs hlk hret rfl (Or.inl rfl) (hb hby dixc_32) (by decide) (by decide) ⟨_, rfl, rfl, ⟨fun _ => noSign_iff.mp hN, fun _ => by decide⟩⟩
  | succ k ih =>
    intro j hj hN
    have hjn : j < cs.length := by omega
    refine s_iload w (hb hby dixc_7) rfl (pc' := 9) rfl ?_
    refine s_iload_n w (hb hby dixc_9) rfl (pc' := 10) rfl ?_
    refine s_icmp_ge w (hb hby dixc_10) (by decide) (pc1 := 13) rfl (pc2 := 31) rfl (fun ct3 => ?_) (fun ct3 => ?_)
    · skip
      refine s_aload_n w (hb hby dixc_13) rfl rfl (pc' := 14) rfl ?_
      refine s_iload w (hb hby dixc_14) rfl (pc' := 16) rfl ?_
      refine w_ldB w K (i := j) (ofNat_lt (by omega)) (ofNat_nat (by omega)) (by rw [hNn, ofNat_nat (by omega)]; exact hjn) (map_getD hjn) (hb hby dixc_16) (pc' := 17) rfl ?_
      refine s_iload w (hb hby dixc_17) rfl (pc' := 19) rfl ?_
      refine s_icmp_ne w (hb hby dixc_19) (by decide) (pc1 := 22) rfl (pc2 := 25) rfl (fun ct4 => ?_) (fun ct4 => ?_)
      · skip
        refine s_iload w (hb hby dixc_22) rfl (pc' := 24) rfl ?_
        refine w_ireturn w hEL hs hlk hret rfl (Or.inl rfl) (hb hby dixc_24) (by decide) (by decide) ⟨_, rfl, rfl, ⟨fun q => absurd q (ofNat_lt (by omega)), fun q => absurd ?_ q⟩⟩
        have e : cs.getD j 0 = c0 := (lo8_eq (hcs _ (getD_mem hjn)) lc0).mp (ct4.trans hv1.symm)
        rw [← e]; exact getD_mem hjn
      · skip
        refine s_iinc w #[.val (.ref t), .val (.int c0), .val (.int 0), .val (.int N), .val (.int v1), .val (.int ((Int32.ofNat j) + 1))] (hb hby dixc_25) (v := 1) rfl rfl rfl (pc' := 28) rfl ?_
        refine s_goto w (hb hby dixc_28) (by decide) (pc' := 7) rfl ?_
        rw [ofNat_succ]
        exact ih (j + 1) (by omega) (hN.step fun q => ct4 (by rw [q]; exact hv1))
    · exact absurd (by rw [hNn]; exact (ofNat_cmp (by omega) (by omega)).mpr hjn) ct3
theorem dixl_0 : decode jdk_43_method_22_code 0 = .ok (.iload_n 1, 1) := by decide +kernel
theorem dixl_1 : decode jdk_43_method_22_code 1 = .ok (.invokestatic 88, 3) := by decide +kernel
theorem dixl_4 : decode jdk_43_method_22_code 4 = .ok (.ifCond .ne 5, 3) := by decide +kernel
theorem dixl_7 : decode jdk_43_method_22_code 7 = .ok (.iconst (-1), 1) := by decide +kernel
theorem dixl_8 : decode jdk_43_method_22_code 8 = .ok (.ireturn, 1) := by decide +kernel
theorem dixl_9 : decode jdk_43_method_22_code 9 = .ok (.iload_n 2, 1) := by decide +kernel
theorem dixl_10 : decode jdk_43_method_22_code 10 = .ok (.iconst 0, 1) := by decide +kernel
theorem dixl_11 : decode jdk_43_method_22_code 11 = .ok (.invokestatic 92, 3) := by decide +kernel
theorem dixl_14 : decode jdk_43_method_22_code 14 = .ok (.istore_n 2, 1) := by decide +kernel
theorem dixl_15 : decode jdk_43_method_22_code 15 = .ok (.iload_n 3, 1) := by decide +kernel
theorem dixl_16 : decode jdk_43_method_22_code 16 = .ok (.aload_n 0, 1) := by decide +kernel
theorem dixl_17 : decode jdk_43_method_22_code 17 = .ok (.arraylength, 1) := by decide +kernel
theorem dixl_18 : decode jdk_43_method_22_code 18 = .ok (.invokestatic 38, 3) := by decide +kernel
theorem dixl_21 : decode jdk_43_method_22_code 21 = .ok (.istore_n 3, 1) := by decide +kernel
theorem dixl_22 : decode jdk_43_method_22_code 22 = .ok (.iload_n 2, 1) := by decide +kernel
theorem dixl_23 : decode jdk_43_method_22_code 23 = .ok (.iload_n 3, 1) := by decide +kernel
theorem dixl_24 : decode jdk_43_method_22_code 24 = .ok (.if_icmp .lt 5, 3) := by decide +kernel
theorem dixl_27 : decode jdk_43_method_22_code 27 = .ok (.iconst (-1), 1) := by decide +kernel
theorem dixl_28 : decode jdk_43_method_22_code 28 = .ok (.ireturn, 1) := by decide +kernel
theorem dixl_29 : decode jdk_43_method_22_code 29 = .ok (.aload_n 0, 1) := by decide +kernel
theorem dixl_30 : decode jdk_43_method_22_code 30 = .ok (.iload_n 1, 1) := by decide +kernel
theorem dixl_31 : decode jdk_43_method_22_code 31 = .ok (.iload_n 2, 1) := by decide +kernel
theorem dixl_32 : decode jdk_43_method_22_code 32 = .ok (.iload_n 3, 1) := by decide +kernel
theorem dixl_33 : decode jdk_43_method_22_code 33 = .ok (.invokestatic 95, 3) := by decide +kernel
theorem dixl_36 : decode jdk_43_method_22_code 36 = .ok (.ireturn, 1) := by decide +kernel
theorem ef_ixl (m : MethodId) (t : Addr) (c0 : Int32) (N : Int32) : entryFrame m #[.ref t, .int c0, .int 0, .int N] 4 = mkF m 0 #[.val (.ref t), .val (.int c0), .val (.int 0), .val (.int N)] [] := by first | (simp [entryFrame, mkF, argsToLocals, Value.category]; done) | rfl
set_option maxRecDepth 65536 in
set_option maxHeartbeats 40000000 in
theorem rm_ixl {l : Launch} {Z : State} {a0 : Array Value} {zc : Int32}  (G : Gl Z a0 zc ) (h : Heap) (t : Addr) (c0 : Int32) (N : Int32) (kb : ClassId) (cs : List Int32) (K : Arv Z h t kb .byte N (cs.map fun c => Value.int (lo8 c)) (.int 0)) (hNn : N = Int32.ofNat cs.length) (hl : cs.length ≤ 4000) (hcs : ∀ c ∈ cs, Lat c) (lc0 : Lat c0) :
    Met l Z consts_1 (⟨"java/lang/StringLatin1", "indexOf", "([BIII)I"⟩ : MethodName) jdk_43_method_22_code 4 (some .int) ({ frames := 1, cells := 0, slots := 0, locals := 17 } : Room) #[.ref t, .int c0, .int 0, .int N] h [] [] (fun v h' => ∃ r : Int32, v = some (.int r) ∧ h = h' ∧ (r < 0 ↔ c0 ∉ cs)) := by
  have G0 := G
  obtain ⟨hw, hEL, SC, hz⟩ := G
  have hw1 : ∀ d ∈ StrChars.Road.words, d.before a0 Z = true := fun d q => hw d (sub1 d q)
  have hwA : ∀ d ∈ Bundle.stringAtoms, d.before a0 Z = true := fun d q => hw d (subA d q)
  have hw2 : ∀ d ∈ wordsS, d.before a0 Z = true := fun d q => hw d (sub2 d q)
  refine Met.of (plainFor_of_name pn_1) ?_
  intro p e s m below meth c T hnm hret hlk hby hml hs w
  have hZ0 := w.old
  refine Run.cast (ef_ixl m t c0 N) ?_
  refine s_iload_n w (hb hby dixl_0) rfl (pc' := 1) rfl ?_
  refine w_static w hEL (y := (⟨"java/lang/StringLatin1", "canEncode", "(I)Z"⟩ : MethodName)) (hw _ (List.mem_of_getElem? (i := 70) rfl)) (hw _ (List.mem_of_getElem? (i := 71) rfl)) (hw _ (List.mem_of_getElem? (i := 68) rfl)) (hw _ (List.mem_of_getElem? (i := 72) rfl)) (by decide) (rm_canI G0 h c0 lc0) all0 all0 (argsL := [.int c0]) (rest := []) (lenOf (by decide +kernel : parseMethodDescriptor "(I)Z" = some ⟨[.int], (some .boolean)⟩) rfl) rfl rfl (hb hby dixl_1) (by rw [hml]; rfl) (W := 0) (Nat.le_of_eq rfl) (by decide) (by decide) (by decide) (by decide) (pc' := 4) rfl fun u1 T h2 w K3 P4 => ?_
  obtain ⟨rfl, rfl⟩ := P4
  show Run p e below _ T (mkF m 4 #[.val (.ref t), .val (.int c0), .val (.int 0), .val (.int N)] [.int 1])
  refine s_if_ne w (hb hby dixl_4) (by decide) (pc1 := 7) rfl (pc2 := 9) rfl (fun q => absurd q (by decide)) (fun _ => ?_)
  refine s_iload_n w (hb hby dixl_9) rfl (pc' := 10) rfl ?_
  refine s_iconst w (hb hby dixl_10) (v := 0) rfl (pc' := 11) rfl ?_
  refine w_static w hEL (y := (⟨"java/lang/Math", "max", "(II)I"⟩ : MethodName)) (hw _ (List.mem_of_getElem? (i := 73) rfl)) (hw _ (List.mem_of_getElem? (i := 74) rfl)) (hw _ (List.mem_of_getElem? (i := 75) rfl)) (hw _ (List.mem_of_getElem? (i := 76) rfl)) (by decide) (rm_max G0 h 0 0) all0 all0 (argsL := [.int 0, .int 0]) (rest := []) (lenOf (by decide +kernel : parseMethodDescriptor "(II)I" = some ⟨[.int, .int], (some .int)⟩) rfl) rfl rfl (hb hby dixl_11) (by rw [hml]; rfl) (W := 0) (Nat.le_of_eq rfl) (by decide) (by decide) (by decide) (by decide) (pc' := 14) rfl fun u6 T h7 w K8 P9 => ?_
  obtain ⟨rfl, rfl⟩ := P9
  rw [if_neg (by decide)]
  show Run p e below _ T (mkF m 14 #[.val (.ref t), .val (.int c0), .val (.int 0), .val (.int N)] [.int 0])
  refine s_istore_n w #[.val (.ref t), .val (.int c0), .val (.int 0), .val (.int N)] (hb hby dixl_14) rfl (pc' := 15) rfl ?_
  refine s_iload_n w (hb hby dixl_15) rfl (pc' := 16) rfl ?_
  refine s_aload_n w (hb hby dixl_16) rfl rfl (pc' := 17) rfl ?_
  refine w_len w K (hb hby dixl_17) (pc' := 18) rfl ?_
  refine w_static w hEL (y := (⟨"java/lang/Math", "min", "(II)I"⟩ : MethodName)) (hw _ (List.mem_of_getElem? (i := 77) rfl)) (hw _ (List.mem_of_getElem? (i := 78) rfl)) (hw _ (List.mem_of_getElem? (i := 75) rfl)) (hw _ (List.mem_of_getElem? (i := 79) rfl)) (by decide) (rm_min G0 h N N) all0 all0 (argsL := [.int N, .int N]) (rest := []) (lenOf (by decide +kernel : parseMethodDescriptor "(II)I" = some ⟨[.int, .int], (some .int)⟩) rfl) rfl rfl (hb hby dixl_18) (by rw [hml]; rfl) (W := 0) (Nat.le_of_eq rfl) (by decide) (by decide) (by decide) (by decide) (pc' := 21) rfl fun u10 T h11 w K12 P13 => ?_
  obtain ⟨rfl, rfl⟩ := P13
  rw [ite_self]
  show Run p e below _ T (mkF m 21 #[.val (.ref t), .val (.int c0), .val (.int 0), .val (.int N)] [.int N])
  refine s_istore_n w #[.val (.ref t), .val (.int c0), .val (.int 0), .val (.int N)] (hb hby dixl_21) rfl (pc' := 22) rfl ?_
  refine s_iload_n w (hb hby dixl_22) rfl (pc' := 23) rfl ?_
  refine s_iload_n w (hb hby dixl_23) rfl (pc' := 24) rfl ?_
  refine s_icmp_lt w (hb hby dixl_24) (by decide) (pc1 := 27) rfl (pc2 := 29) rfl (fun ct14 => ?_) (fun ct14 => ?_)
  · -- ¬ (0 < N)
    refine s_iconst w (hb hby dixl_27) (v := (-1)) rfl (pc' := 28) rfl ?_
    have e0 : cs = [] := List.eq_nil_of_length_eq_zero (Nat.eq_zero_of_not_pos fun q => ct14 (by rw [hNn]; exact (ofNat_cmp (n := 0) (by omega) hl).mpr q))
    exact w_ireturn w hEL hs hlk hret rfl (Or.inl rfl) (hb hby dixl_28) (by decide) (by decide) ⟨_, rfl, rfl, by rw [e0]; exact ⟨fun _ => List.not_mem_nil, fun _ => by decide⟩⟩
  · -- 0 < N
    refine s_aload_n w (hb hby dixl_29) rfl rfl (pc' := 30) rfl ?_
    refine s_iload_n w (hb hby dixl_30) rfl (pc' := 31) rfl ?_
    refine s_iload_n w (hb hby dixl_31) rfl (pc' := 32) rfl ?_
    refine s_iload_n w (hb hby dixl_32) rfl (pc' := 33) rfl ?_
    refine w_static w hEL (y := (⟨"java/lang/StringLatin1", "indexOfChar", "([BIII)I"⟩ : MethodName)) (hw _ (List.mem_of_getElem? (i := 80) rfl)) (hw _ (List.mem_of_getElem? (i := 81) rfl)) (hw _ (List.mem_of_getElem? (i := 68) rfl)) (hw _ (List.mem_of_getElem? (i := 82) rfl)) (by decide) (rm_ixc G0 h t c0 N kb cs K hNn hl hcs lc0) all0 all0 (argsL := [.ref t, .int c0, .int 0, .int N]) (rest := []) (lenOf (by decide +kernel : parseMethodDescriptor "([BIII)I" = some ⟨[(.array .byte), .int, .int, .int], (some .int)⟩) rfl) rfl rfl (hb hby dixl_33) (by rw [hml]; rfl) (W := 0) (Nat.le_of_eq rfl) (by decide) (by decide) (by decide) (by decide) (pc' := 36) rfl fun u15 T h16 w K17 P18 => ?_
    obtain ⟨rr, rfl, rfl, hrr⟩ := P18
    show Run p e below _ T (mkF m 36 #[.val (.ref t), .val (.int c0), .val (.int 0), .val (.int N)] [.int rr])
    exact w_ireturn w hEL hs hlk hret rfl (Or.inl rfl) (hb hby dixl_36) (by decide) (by decide) ⟨_, rfl, rfl, hrr⟩
theorem dix2_0 : decode jdk_42_method_80_code 0 = .ok (.aload_n 0, 1) := by decide +kernel
theorem dix2_1 : decode jdk_42_method_80_code 1 = .ok (.invokevirtual 492, 3) := by decide +kernel
theorem dix2_4 : decode jdk_42_method_80_code 4 = .ok (.ifCond .eq 19, 3) := by decide +kernel
theorem dix2_7 : decode jdk_42_method_80_code 7 = .ok (.aload_n 0, 1) := by decide +kernel
theorem dix2_8 : decode jdk_42_method_80_code 8 = .ok (.getfield 9, 3) := by decide +kernel
theorem dix2_11 : decode jdk_42_method_80_code 11 = .ok (.iload_n 1, 1) := by decide +kernel
theorem dix2_12 : decode jdk_42_method_80_code 12 = .ok (.iload_n 2, 1) := by decide +kernel
theorem dix2_13 : decode jdk_42_method_80_code 13 = .ok (.aload_n 0, 1) := by decide +kernel
theorem dix2_14 : decode jdk_42_method_80_code 14 = .ok (.invokevirtual 505, 3) := by decide +kernel
theorem dix2_17 : decode jdk_42_method_80_code 17 = .ok (.invokestatic 637, 3) := by decide +kernel
theorem dix2_20 : decode jdk_42_method_80_code 20 = .ok (.goto 16, 3) := by decide +kernel
theorem dix2_23 : decode jdk_42_method_80_code 23 = .ok (.aload_n 0, 1) := by decide +kernel
theorem dix2_24 : decode jdk_42_method_80_code 24 = .ok (.getfield 9, 3) := by decide +kernel
theorem dix2_27 : decode jdk_42_method_80_code 27 = .ok (.iload_n 1, 1) := by decide +kernel
theorem dix2_28 : decode jdk_42_method_80_code 28 = .ok (.iload_n 2, 1) := by decide +kernel
theorem dix2_29 : decode jdk_42_method_80_code 29 = .ok (.aload_n 0, 1) := by decide +kernel
theorem dix2_30 : decode jdk_42_method_80_code 30 = .ok (.invokevirtual 505, 3) := by decide +kernel
theorem dix2_33 : decode jdk_42_method_80_code 33 = .ok (.invokestatic 640, 3) := by decide +kernel
theorem dix2_36 : decode jdk_42_method_80_code 36 = .ok (.ireturn, 1) := by decide +kernel
theorem ef_ix2 (m : MethodId) (x : Addr) (c0 : Int32) : entryFrame m #[.ref x, .int c0, .int 0] 3 = mkF m 0 #[.val (.ref x), .val (.int c0), .val (.int 0)] [] := by first | (simp [entryFrame, mkF, argsToLocals, Value.category]; done) | rfl
set_option maxRecDepth 65536 in
set_option maxHeartbeats 40000000 in
theorem rm_ix2 {l : Launch} {Z : State} {a0 : Array Value} {zc : Int32}  (G : Gl Z a0 zc ) (h : Heap) (x : Addr) (c0 : Int32) (cs : List Int32) (F : Str Z h x cs) (hcs : ∀ c ∈ cs, Lat c) (lc0 : Lat c0) :
    Met l Z consts_1 (⟨"java/lang/String", "indexOf", "(II)I"⟩ : MethodName) jdk_42_method_80_code 3 (some .int) ({ frames := 2, cells := 0, slots := 0, locals := 32 } : Room) #[.ref x, .int c0, .int 0] h [] [] (fun v h' => ∃ r : Int32, v = some (.int r) ∧ h = h' ∧ (r < 0 ↔ c0 ∉ cs)) := by
  have G0 := G
  obtain ⟨hw, hEL, SC, hz⟩ := G
  have hw1 : ∀ d ∈ StrChars.Road.words, d.before a0 Z = true := fun d q => hw d (sub1 d q)
  have hwA : ∀ d ∈ Bundle.stringAtoms, d.before a0 Z = true := fun d q => hw d (subA d q)
  have hw2 : ∀ d ∈ wordsS, d.before a0 Z = true := fun d q => hw d (sub2 d q)
  refine Met.of (plainFor_of_name pn_0) ?_
  intro p e s m below meth c T hnm hret hlk hby hml hs w
  have hZ0 := w.old
  refine Run.cast (ef_ix2 m x c0) ?_
  obtain ⟨t, kb, V, C, K, hl⟩ := F.lat hcs
  have hwL : ∀ d ∈ StrChars.Road.wordsLen, d.before a0 Z = true := fun d q => hw d (subL d q)
  refine s_aload_n w (hb hby dix2_0) rfl rfl (pc' := 1) rfl ?_
  refine w_virtual w hEL (y := (⟨"java/lang/String", "isLatin1", "()Z"⟩ : MethodName)) (y' := (⟨"java/lang/String", "isLatin1", "()Z"⟩ : MethodName)) (C := "java/lang/String") (a := x) (hw _ (List.mem_of_getElem? (i := 51) rfl)) (hw _ (List.mem_of_getElem? (i := 52) rfl)) (hw _ (List.mem_of_getElem? (i := 54) rfl)) (hw _ (List.mem_of_getElem? (i := 54) rfl)) (hw _ (List.mem_of_getElem? (i := 53) rfl)) (hw _ (List.mem_of_getElem? (i := 7) rfl)) (hw _ (List.mem_of_getElem? (i := 55) rfl)) (by decide) F.1 (rm_isL1 G0 h x C) all0 all0 (argsL := []) (rest := []) (lenOf (by decide +kernel : parseMethodDescriptor "()Z" = some ⟨[], (some .boolean)⟩) rfl) rfl rfl (hb hby dix2_1) (by rw [hml]; rfl) (W := 0) (Nat.le_of_eq rfl) (by decide) (by decide) (by decide) (by decide) (pc' := 4) rfl fun u1 T h2 w K3 P4 => ?_
  obtain ⟨rfl, rfl⟩ := P4
  show Run p e below _ T (mkF m 4 #[.val (.ref x), .val (.int c0), .val (.int 0)] [.int 1])
  refine s_if_eq w (hb hby dix2_4) (by decide) (pc1 := 7) rfl (pc2 := 23) rfl (fun _ => ?_) (fun q => absurd q (by decide))
  refine s_aload_n w (hb hby dix2_7) rfl rfl (pc' := 8) rfl ?_
  refine w_getF w (hw _ (List.mem_of_getElem? (i := 32) rfl)) Via.refl V (hb hby dix2_8) (pc' := 11) rfl fun T w => ?_
  refine s_iload_n w (hb hby dix2_11) rfl (pc' := 12) rfl ?_
  refine s_iload_n w (hb hby dix2_12) rfl (pc' := 13) rfl ?_
  refine s_aload_n w (hb hby dix2_13) rfl rfl (pc' := 14) rfl ?_
  obtain ⟨XE, Xt, Xkb, Xcd, XN, Xvs, Xq1, Xq2, Xq3, Xq4, Xq5, Xq6⟩ := F
  refine w_virtB w (y := Len.yN) (y' := Len.yN) (C := ST) (hw _ (List.mem_of_getElem? (i := 56) rfl)) (hw _ (List.mem_of_getElem? (i := 57) rfl)) (hw _ (List.mem_of_getElem? (i := 59) rfl)) (hw _ (List.mem_of_getElem? (i := 59) rfl)) (hw _ (List.mem_of_getElem? (i := 58) rfl)) (by decide) XE (Pv := fun v => v = some (.int (Int32.ofNat (cs).length))) (as' := #[.ref x]) (W := 3) (fun vm0 hZ => StrChars.Road.lenW hZ hwL (hw _ (List.mem_of_getElem? (i := 6) rfl)) XE Xq1 Xq2 Xq3 Xq4 Xq5 (SC.ext w.old) hz Xq6 (by decide) (by decide)) (argsL := []) (rest := [.int 0, .int c0, .ref t]) (lenOf (by decide +kernel : parseMethodDescriptor "()I" = some ⟨[], (some .int)⟩) rfl) rfl rfl (hb hby dix2_14) (by rw [hml]; rfl) (Nat.le_of_eq rfl) (by decide) (by decide) (pc' := 17) rfl fun u6 T w P7 => ?_
  obtain rfl := P7
  show Run p e below _ T (mkF m 17 #[.val (.ref x), .val (.int c0), .val (.int 0)] [.int (Int32.ofNat (cs).length), .int 0, .int c0, .ref t])
  refine w_static w hEL (y := (⟨"java/lang/StringLatin1", "indexOf", "([BIII)I"⟩ : MethodName)) (hw _ (List.mem_of_getElem? (i := 66) rfl)) (hw _ (List.mem_of_getElem? (i := 67) rfl)) (hw _ (List.mem_of_getElem? (i := 68) rfl)) (hw _ (List.mem_of_getElem? (i := 69) rfl)) (by decide) (rm_ixl G0 h t c0 _ kb cs K rfl hl hcs lc0) all0 all0 (argsL := [.ref t, .int c0, .int 0, .int (Int32.ofNat (cs).length)]) (rest := []) (lenOf (by decide +kernel : parseMethodDescriptor "([BIII)I" = some ⟨[(.array .byte), .int, .int, .int], (some .int)⟩) rfl) rfl rfl (hb hby dix2_17) (by rw [hml]; rfl) (W := 0) (Nat.le_of_eq rfl) (by decide) (by decide) (by decide) (by decide) (pc' := 20) rfl fun u8 T h9 w K10 P11 => ?_
  obtain ⟨rr, rfl, rfl, hrr⟩ := P11
  show Run p e below _ T (mkF m 20 #[.val (.ref x), .val (.int c0), .val (.int 0)] [.int rr])
  refine s_goto w (hb hby dix2_20) (by decide) (pc' := 36) rfl ?_
  exact w_ireturn w hEL hs hlk hret rfl (Or.inl rfl) (hb hby dix2_36) (by decide) (by decide) ⟨_, rfl, rfl, hrr⟩
theorem dix1_0 : decode jdk_42_method_79_code 0 = .ok (.aload_n 0, 1) := by decide +kernel
theorem dix1_1 : decode jdk_42_method_79_code 1 = .ok (.iload_n 1, 1) := by decide +kernel
theorem dix1_2 : decode jdk_42_method_79_code 2 = .ok (.iconst 0, 1) := by decide +kernel
theorem dix1_3 : decode jdk_42_method_79_code 3 = .ok (.invokevirtual 633, 3) := by decide +kernel
theorem dix1_6 : decode jdk_42_method_79_code 6 = .ok (.ireturn, 1) := by decide +kernel
theorem ef_ix1 (m : MethodId) (x : Addr) (c0 : Int32) : entryFrame m #[.ref x, .int c0] 2 = mkF m 0 #[.val (.ref x), .val (.int c0)] [] := by first | (simp [entryFrame, mkF, argsToLocals, Value.category]; done) | rfl
set_option maxRecDepth 65536 in
set_option maxHeartbeats 40000000 in
theorem rm_ix1 {l : Launch} {Z : State} {a0 : Array Value} {zc : Int32}  (G : Gl Z a0 zc ) (h : Heap) (x : Addr) (c0 : Int32) (cs : List Int32) (F : Str Z h x cs) (hcs : ∀ c ∈ cs, Lat c) (lc0 : Lat c0) :
    Met l Z consts_1 (⟨"java/lang/String", "indexOf", "(I)I"⟩ : MethodName) jdk_42_method_79_code 2 (some .int) ({ frames := 3, cells := 0, slots := 0, locals := 46 } : Room) #[.ref x, .int c0] h [] [] (fun v h' => ∃ r : Int32, v = some (.int r) ∧ h = h' ∧ (r < 0 ↔ c0 ∉ cs)) := by
  have G0 := G
  obtain ⟨hw, hEL, SC, hz⟩ := G
  have hw1 : ∀ d ∈ StrChars.Road.words, d.before a0 Z = true := fun d q => hw d (sub1 d q)
  have hwA : ∀ d ∈ Bundle.stringAtoms, d.before a0 Z = true := fun d q => hw d (subA d q)
  have hw2 : ∀ d ∈ wordsS, d.before a0 Z = true := fun d q => hw d (sub2 d q)
  refine Met.of (plainFor_of_name pn_0) ?_
  intro p e s m below meth c T hnm hret hlk hby hml hs w
  have hZ0 := w.old
  refine Run.cast (ef_ix1 m x c0) ?_
  refine s_aload_n w (hb hby dix1_0) rfl rfl (pc' := 1) rfl ?_
  refine s_iload_n w (hb hby dix1_1) rfl (pc' := 2) rfl ?_
  refine s_iconst w (hb hby dix1_2) (v := 0) rfl (pc' := 3) rfl ?_
  refine w_virtual w hEL (y := (⟨"java/lang/String", "indexOf", "(II)I"⟩ : MethodName)) (y' := (⟨"java/lang/String", "indexOf", "(II)I"⟩ : MethodName)) (C := "java/lang/String") (a := x) (hw _ (List.mem_of_getElem? (i := 46) rfl)) (hw _ (List.mem_of_getElem? (i := 47) rfl)) (hw _ (List.mem_of_getElem? (i := 49) rfl)) (hw _ (List.mem_of_getElem? (i := 49) rfl)) (hw _ (List.mem_of_getElem? (i := 48) rfl)) (hw _ (List.mem_of_getElem? (i := 7) rfl)) (hw _ (List.mem_of_getElem? (i := 50) rfl)) (by decide) F.1 (rm_ix2 G0 h x c0 cs F hcs lc0) all0 all0 (argsL := [.int c0, .int 0]) (rest := []) (lenOf (by decide +kernel : parseMethodDescriptor "(II)I" = some ⟨[.int, .int], (some .int)⟩) rfl) rfl rfl (hb hby dix1_3) (by rw [hml]; rfl) (W := 0) (Nat.le_of_eq rfl) (by decide) (by decide) (by decide) (by decide) (pc' := 6) rfl fun u1 T h2 w K3 P4 => ?_
  obtain ⟨rr, rfl, rfl, hrr⟩ := P4
  show Run p e below _ T (mkF m 6 #[.val (.ref x), .val (.int c0)] [.int rr])
  exact w_ireturn w hEL hs hlk hret rfl (Or.inl rfl) (hb hby dix1_6) (by decide) (by decide) ⟨_, rfl, rfl, hrr⟩
theorem ddraw_0 : decode method_2_code 0 = .ok (.iload_n 0, 1) := by decide +kernel
theorem ddraw_1 : decode method_2_code 1 = .ok (.bipush 8, 2) := by decide +kernel
theorem ddraw_3 : decode method_2_code 3 = .ok (.iushr, 1) := by decide +kernel
theorem ddraw_4 : decode method_2_code 4 = .ok (.iconst 3, 1) := by decide +kernel
theorem ddraw_5 : decode method_2_code 5 = .ok (.iand, 1) := by decide +kernel
theorem ddraw_6 : decode method_2_code 6 = .ok (.istore_n 1, 1) := by decide +kernel
theorem ddraw_7 : decode method_2_code 7 = .ok (.iload_n 1, 1) := by decide +kernel
theorem ddraw_8 : decode method_2_code 8 = .ok (.ifCond .ne 6, 3) := by decide +kernel
theorem ddraw_11 : decode method_2_code 11 = .ok (.bipush 11, 2) := by decide +kernel
theorem ddraw_13 : decode method_2_code 13 = .ok (.ireturn, 1) := by decide +kernel
theorem ddraw_14 : decode method_2_code 14 = .ok (.iload_n 1, 1) := by decide +kernel
theorem ddraw_15 : decode method_2_code 15 = .ok (.iconst 1, 1) := by decide +kernel
theorem ddraw_16 : decode method_2_code 16 = .ok (.if_icmp .ne 6, 3) := by decide +kernel
theorem ddraw_19 : decode method_2_code 19 = .ok (.bipush 28, 2) := by decide +kernel
theorem ddraw_21 : decode method_2_code 21 = .ok (.ireturn, 1) := by decide +kernel
theorem ddraw_22 : decode method_2_code 22 = .ok (.iload_n 0, 1) := by decide +kernel
theorem ddraw_23 : decode method_2_code 23 = .ok (.sipush 255, 3) := by decide +kernel
theorem ddraw_26 : decode method_2_code 26 = .ok (.iand, 1) := by decide +kernel
theorem ddraw_27 : decode method_2_code 27 = .ok (.i2c, 1) := by decide +kernel
theorem ddraw_28 : decode method_2_code 28 = .ok (.ireturn, 1) := by decide +kernel
theorem pn_2 : plainName "com/example/benchwire/benchwire/protocol/hl7/MllpCanCarryPinLaw" = true := by first | (simp [plainName, overriddenIn]; done) | decide +kernel
theorem ef_draw (m : MethodId) (p0 : Int32) : entryFrame m #[.int p0] 2 = mkF m 0 #[.val (.int p0), .unset] [] := by first | (simp [entryFrame, mkF, argsToLocals, Value.category]; done) | rfl
set_option maxRecDepth 65536 in
set_option maxHeartbeats 40000000 in
theorem rm_draw {l : Launch} {Z : State} {a0 : Array Value} {zc : Int32}  (G : Gl Z a0 zc ) (h : Heap) (p0 : Int32)  :
    Met l Z consts_1 (⟨"com/example/benchwire/benchwire/protocol/hl7/MllpCanCarryPinLaw", "draw", "(I)C"⟩ : MethodName) method_2_code 2 (some .char) ({ frames := 0, cells := 0, slots := 0, locals := 0 } : Room) #[.int p0] h [] [] (fun v h' => ∃ r : Int32, v = some (.int r) ∧ h = h' ∧ Lat r) := by
  have G0 := G
  obtain ⟨hw, hEL, SC, hz⟩ := G
  have hw1 : ∀ d ∈ StrChars.Road.words, d.before a0 Z = true := fun d q => hw d (sub1 d q)
  have hwA : ∀ d ∈ Bundle.stringAtoms, d.before a0 Z = true := fun d q => hw d (subA d q)
  have hw2 : ∀ d ∈ wordsS, d.before a0 Z = true := fun d q => hw d (sub2 d q)
  refine Met.of (plainFor_of_name pn_2) ?_
  intro p e s m below meth c T hnm hret hlk hby hml hs w
  have hZ0 := w.old
  refine Run.cast (ef_draw m p0) ?_
  refine s_iload_n w (hb hby ddraw_0) rfl (pc' := 1) rfl ?_
  refine s_bipush w (hb hby ddraw_1) (v := 8) rfl (pc' := 3) rfl ?_
  refine s_iushr w (hb hby ddraw_3) (pc' := 4) rfl ?_
  refine s_iconst w (hb hby ddraw_4) (v := 3) rfl (pc' := 5) rfl ?_
  refine s_iand w (hb hby ddraw_5) (pc' := 6) rfl ?_
  generalize hv1 : (((XT.ushr p0 8) &&& 3) : Int32) = v1
  refine s_istore_n w #[.val (.int p0), .val (.int v1)] (hb hby ddraw_6) rfl (pc' := 7) rfl ?_
  refine s_iload_n w (hb hby ddraw_7) rfl (pc' := 8) rfl ?_
  refine s_if_ne w (hb hby ddraw_8) (by decide) (pc1 := 11) rfl (pc2 := 14) rfl (fun ct2 => ?_) (fun ct2 => ?_)
  · -- v1 = 0
    refine s_bipush w (hb hby ddraw_11) (v := 11) rfl (pc' := 13) rfl ?_
    exact w_ireturn w hEL hs hlk hret rfl (Or.inr (Or.inr (Or.inr (Or.inl rfl)))) (hb hby ddraw_13) (by decide) (by decide) ⟨_, rfl, rfl, (by unfold Lat; decide)⟩
  · -- ¬ (v1 = 0)
    refine s_iload_n w (hb hby ddraw_14) rfl (pc' := 15) rfl ?_
    refine s_iconst w (hb hby ddraw_15) (v := 1) rfl (pc' := 16) rfl ?_
    refine s_icmp_ne w (hb hby ddraw_16) (by decide) (pc1 := 19) rfl (pc2 := 22) rfl (fun ct3 => ?_) (fun ct3 => ?_)
    · -- v1 = 1
      refine s_bipush w (hb hby ddraw_19) (v := 28) rfl (pc' := 21) rfl ?_
      exact w_ireturn w hEL hs hlk hret rfl (Or.inr (Or.inr (Or.inr (Or.inl rfl)))) (hb hby ddraw_21) (by decide) (by decide) ⟨_, rfl, rfl, (by unfold Lat; decide)⟩
    · -- ¬ (v1 = 1)
      refine s_iload_n w (hb hby ddraw_22) rfl (pc' := 23) rfl ?_
      refine s_sipush w (hb hby ddraw_23) (v := 255) rfl (pc' := 26) rfl ?_
      refine s_iand w (hb hby ddraw_26) (pc' := 27) rfl ?_
      refine s_i2c w (hb hby ddraw_27) (pc' := 28) rfl ?_
      exact w_ireturn w hEL hs hlk hret (XT.narrow_c _) (Or.inr (Or.inr (Or.inr (Or.inl rfl)))) (hb hby ddraw_28) (by decide) (by decide) ⟨_, rfl, rfl, (lat_mask _)⟩
theorem dfree_0 : decode method_3_code 0 = .ok (.iload_n 0, 1) := by decide +kernel
theorem dfree_1 : decode method_3_code 1 = .ok (.bipush 11, 2) := by decide +kernel
theorem dfree_3 : decode method_3_code 3 = .ok (.if_icmp .eq 13, 3) := by decide +kernel
theorem dfree_6 : decode method_3_code 6 = .ok (.iload_n 0, 1) := by decide +kernel
theorem dfree_7 : decode method_3_code 7 = .ok (.bipush 28, 2) := by decide +kernel
theorem dfree_9 : decode method_3_code 9 = .ok (.if_icmp .eq 7, 3) := by decide +kernel
theorem dfree_12 : decode method_3_code 12 = .ok (.iconst 1, 1) := by decide +kernel
theorem dfree_13 : decode method_3_code 13 = .ok (.goto 4, 3) := by decide +kernel
theorem dfree_16 : decode method_3_code 16 = .ok (.iconst 0, 1) := by decide +kernel
theorem dfree_17 : decode method_3_code 17 = .ok (.ireturn, 1) := by decide +kernel
theorem ef_free (m : MethodId) (c0 : Int32) : entryFrame m #[.int c0] 1 = mkF m 0 #[.val (.int c0)] [] := by first | (simp [entryFrame, mkF, argsToLocals, Value.category]; done) | rfl
set_option maxRecDepth 65536 in
set_option maxHeartbeats 40000000 in
theorem rm_free {l : Launch} {Z : State} {a0 : Array Value} {zc : Int32}  (G : Gl Z a0 zc ) (h : Heap) (c0 : Int32)  :
    Met l Z consts_1 (⟨"com/example/benchwire/benchwire/protocol/hl7/MllpCanCarryPinLaw", "free", "(C)Z"⟩ : MethodName) method_3_code 1 (some .boolean) ({ frames := 0, cells := 0, slots := 0, locals := 0 } : Room) #[.int c0] h [] [] (fun v h' => v = some (.int (if ¬ c0 = 11 ∧ ¬ c0 = 28 then 1 else 0)) ∧ h = h') := by
  have G0 := G
  obtain ⟨hw, hEL, SC, hz⟩ := G
  have hw1 : ∀ d ∈ StrChars.Road.words, d.before a0 Z = true := fun d q => hw d (sub1 d q)
  have hwA : ∀ d ∈ Bundle.stringAtoms, d.before a0 Z = true := fun d q => hw d (subA d q)
  have hw2 : ∀ d ∈ wordsS, d.before a0 Z = true := fun d q => hw d (sub2 d q)
  refine Met.of (plainFor_of_name pn_2) ?_
  intro p e s m below meth c T hnm hret hlk hby hml hs w
  have hZ0 := w.old
  refine Run.cast (ef_free m c0) ?_
  refine s_iload_n w (hb hby dfree_0) rfl (pc' := 1) rfl ?_
  refine s_bipush w (hb hby dfree_1) (v := 11) rfl (pc' := 3) rfl ?_
  refine s_icmp_eq w (hb hby dfree_3) (by decide) (pc1 := 6) rfl (pc2 := 16) rfl (fun ct1 => ?_) (fun ct1 => ?_)
  · -- ¬ (c0 = 11)
    refine s_iload_n w (hb hby dfree_6) rfl (pc' := 7) rfl ?_
    refine s_bipush w (hb hby dfree_7) (v := 28) rfl (pc' := 9) rfl ?_
    refine s_icmp_eq w (hb hby dfree_9) (by decide) (pc1 := 12) rfl (pc2 := 16) rfl (fun ct2 => ?_) (fun ct2 => ?_)
    · -- ¬ (c0 = 28)
      refine s_iconst w (hb hby dfree_12) (v := 1) rfl (pc' := 13) rfl ?_
      refine s_goto w (hb hby dfree_13) (by decide) (pc' := 17) rfl ?_
      refine w_ireturn w hEL hs hlk hret rfl (Or.inr (Or.inl rfl)) (hb hby dfree_17) (by decide) (by decide) ⟨?_, rfl⟩
      rw [if_pos ⟨by assumption, by assumption⟩]
    · -- c0 = 28
      refine s_iconst w (hb hby dfree_16) (v := 0) rfl (pc' := 17) rfl ?_
      refine w_ireturn w hEL hs hlk hret rfl (Or.inr (Or.inl rfl)) (hb hby dfree_17) (by decide) (by decide) ⟨?_, rfl⟩
      rw [if_neg fun q => by first | exact q.1 (by assumption) | exact q.2 (by assumption)]
  · -- c0 = 11
    refine s_iconst w (hb hby dfree_16) (v := 0) rfl (pc' := 17) rfl ?_
    refine w_ireturn w hEL hs hlk hret rfl (Or.inr (Or.inl rfl)) (hb hby dfree_17) (by decide) (by decide) ⟨?_, rfl⟩
    rw [if_neg fun q => by first | exact q.1 (by assumption) | exact q.2 (by assumption)]
theorem dcc_0 : decode prog_109_method_2_code 0 = .ok (.aload_n 0, 1) := by decide +kernel
theorem dcc_1 : decode prog_109_method_2_code 1 = .ok (.bipush 11, 2) := by decide +kernel
theorem dcc_3 : decode prog_109_method_2_code 3 = .ok (.invokevirtual 9, 3) := by decide +kernel
theorem dcc_6 : decode prog_109_method_2_code 6 = .ok (.ifCond .ge 16, 3) := by decide +kernel
theorem dcc_9 : decode prog_109_method_2_code 9 = .ok (.aload_n 0, 1) := by decide +kernel
theorem dcc_10 : decode prog_109_method_2_code 10 = .ok (.bipush 28, 2) := by decide +kernel
theorem dcc_12 : decode prog_109_method_2_code 12 = .ok (.invokevirtual 9, 3) := by decide +kernel
theorem dcc_15 : decode prog_109_method_2_code 15 = .ok (.ifCond .ge 7, 3) := by decide +kernel
theorem dcc_18 : decode prog_109_method_2_code 18 = .ok (.iconst 1, 1) := by decide +kernel
theorem dcc_19 : decode prog_109_method_2_code 19 = .ok (.goto 4, 3) := by decide +kernel
theorem dcc_22 : decode prog_109_method_2_code 22 = .ok (.iconst 0, 1) := by decide +kernel
theorem dcc_23 : decode prog_109_method_2_code 23 = .ok (.ireturn, 1) := by decide +kernel
theorem pn_3 : plainName "com/example/benchwire/benchwire/protocol/hl7/Mllp" = true := by first | (simp [plainName, overriddenIn]; done) | decide +kernel
theorem ef_cc (m : MethodId) (x : Addr) : entryFrame m #[.ref x] 1 = mkF m 0 #[.val (.ref x)] [] := by first | (simp [entryFrame, mkF, argsToLocals, Value.category]; done) | rfl
set_option maxRecDepth 65536 in
set_option maxHeartbeats 40000000 in
theorem rm_cc {l : Launch} {Z : State} {a0 : Array Value} {zc : Int32}  (G : Gl Z a0 zc ) (h : Heap) (x : Addr) (cs : List Int32) (F : Str Z h x cs) (hcs : ∀ c ∈ cs, Lat c) :
    Met l Z consts_1 (⟨"com/example/benchwire/benchwire/protocol/hl7/Mllp", "canCarry", "(Ljava/lang/String;)Z"⟩ : MethodName) prog_109_method_2_code 1 (some .boolean) ({ frames := 4, cells := 0, slots := 0, locals := 59 } : Room) #[.ref x] h [] [] (fun v h' => v = some (.int (if (11 : Int32) ∉ cs ∧ (28 : Int32) ∉ cs then 1 else 0)) ∧ h = h') := by
  have G0 := G
  obtain ⟨hw, hEL, SC, hz⟩ := G
  have hw1 : ∀ d ∈ StrChars.Road.words, d.before a0 Z = true := fun d q => hw d (sub1 d q)
  have hwA : ∀ d ∈ Bundle.stringAtoms, d.before a0 Z = true := fun d q => hw d (subA d q)
  have hw2 : ∀ d ∈ wordsS, d.before a0 Z = true := fun d q => hw d (sub2 d q)
  refine Met.of (plainFor_of_name pn_3) ?_
  intro p e s m below meth c T hnm hret hlk hby hml hs w
  have hZ0 := w.old
  refine Run.cast (ef_cc m x) ?_
  refine s_aload_n w (hb hby dcc_0) rfl rfl (pc' := 1) rfl ?_
  refine s_bipush w (hb hby dcc_1) (v := 11) rfl (pc' := 3) rfl ?_
  refine w_virtual w hEL (y := (⟨"java/lang/String", "indexOf", "(I)I"⟩ : MethodName)) (y' := (⟨"java/lang/String", "indexOf", "(I)I"⟩ : MethodName)) (C := "java/lang/String") (a := x) (hw _ (List.mem_of_getElem? (i := 41) rfl)) (hw _ (List.mem_of_getElem? (i := 42) rfl)) (hw _ (List.mem_of_getElem? (i := 44) rfl)) (hw _ (List.mem_of_getElem? (i := 44) rfl)) (hw _ (List.mem_of_getElem? (i := 43) rfl)) (hw _ (List.mem_of_getElem? (i := 7) rfl)) (hw _ (List.mem_of_getElem? (i := 45) rfl)) (by decide) F.1 (rm_ix1 G0 h x 11 cs F hcs (by unfold Lat; decide)) all0 all0 (argsL := [.int 11]) (rest := []) (lenOf (by decide +kernel : parseMethodDescriptor "(I)I" = some ⟨[.int], (some .int)⟩) rfl) rfl rfl (hb hby dcc_3) (by rw [hml]; rfl) (W := 0) (Nat.le_of_eq rfl) (by decide) (by decide) (by decide) (by decide) (pc' := 6) rfl fun u1 T h2 w K3 P4 => ?_
  obtain ⟨rr5, rfl, rfl, hr6⟩ := P4
  show Run p e below _ T (mkF m 6 #[.val (.ref x)] [.int rr5])
  refine s_if_ge w (hb hby dcc_6) (by decide) (pc1 := 9) rfl (pc2 := 22) rfl (fun ct7 => ?_) (fun ct7 => ?_)
  · -- rr5 < 0
    refine s_aload_n w (hb hby dcc_9) rfl rfl (pc' := 10) rfl ?_
    refine s_bipush w (hb hby dcc_10) (v := 28) rfl (pc' := 12) rfl ?_
    refine w_virtual w hEL (y := (⟨"java/lang/String", "indexOf", "(I)I"⟩ : MethodName)) (y' := (⟨"java/lang/String", "indexOf", "(I)I"⟩ : MethodName)) (C := "java/lang/String") (a := x) (hw _ (List.mem_of_getElem? (i := 41) rfl)) (hw _ (List.mem_of_getElem? (i := 42) rfl)) (hw _ (List.mem_of_getElem? (i := 44) rfl)) (hw _ (List.mem_of_getElem? (i := 44) rfl)) (hw _ (List.mem_of_getElem? (i := 43) rfl)) (hw _ (List.mem_of_getElem? (i := 7) rfl)) (hw _ (List.mem_of_getElem? (i := 45) rfl)) (by decide) F.1 (rm_ix1 G0 h x 28 cs F hcs (by unfold Lat; decide)) all0 all0 (argsL := [.int 28]) (rest := []) (lenOf (by decide +kernel : parseMethodDescriptor "(I)I" = some ⟨[.int], (some .int)⟩) rfl) rfl rfl (hb hby dcc_12) (by rw [hml]; rfl) (W := 0) (Nat.le_of_eq rfl) (by decide) (by decide) (by decide) (by decide) (pc' := 15) rfl fun u8 T h9 w K10 P11 => ?_
    obtain ⟨rr12, rfl, rfl, hr13⟩ := P11
    show Run p e below _ T (mkF m 15 #[.val (.ref x)] [.int rr12])
    refine s_if_ge w (hb hby dcc_15) (by decide) (pc1 := 18) rfl (pc2 := 22) rfl (fun ct14 => ?_) (fun ct14 => ?_)
    · -- rr12 < 0
      refine s_iconst w (hb hby dcc_18) (v := 1) rfl (pc' := 19) rfl ?_
      refine s_goto w (hb hby dcc_19) (by decide) (pc' := 23) rfl ?_
      refine w_ireturn w hEL hs hlk hret rfl (Or.inr (Or.inl rfl)) (hb hby dcc_23) (by decide) (by decide) ⟨?_, rfl⟩
      rw [if_pos ⟨hr6.mp ct7, hr13.mp ct14⟩]
    · -- ¬ (rr12 < 0)
      refine s_iconst w (hb hby dcc_22) (v := 0) rfl (pc' := 23) rfl ?_
      refine w_ireturn w hEL hs hlk hret rfl (Or.inr (Or.inl rfl)) (hb hby dcc_23) (by decide) (by decide) ⟨?_, rfl⟩
      rw [if_neg fun q => ct14 (hr13.mpr q.2)]
  · -- ¬ (rr5 < 0)
    refine s_iconst w (hb hby dcc_22) (v := 0) rfl (pc' := 23) rfl ?_
    refine w_ireturn w hEL hs hlk hret rfl (Or.inr (Or.inl rfl)) (hb hby dcc_23) (by decide) (by decide) ⟨?_, rfl⟩
    rw [if_neg fun q => ct7 (hr6.mpr q.1)]
theorem ef_law (m : MethodId) (p0 : Int32) (p1 : Int32) (p2 : Int32) (p3 : Int32) : entryFrame m #[.int p0, .int p1, .int p2, .int p3] maxLocals = mkF m 0 #[.val (.int p0), .val (.int p1), .val (.int p2), .val (.int p3), .unset, .unset, .unset, .unset, .unset, .unset, .unset] [] := by first | (simp [entryFrame, mkF, argsToLocals, Value.category, maxLocals]; done) | rfl
set_option maxRecDepth 65536 in
set_option maxHeartbeats 40000000 in
theorem rm_law {l : Launch} {Z : State} {a0 : Array Value} {zc : Int32}  (G : Gl Z a0 zc ) (h : Heap) (p0 : Int32) (p1 : Int32) (p2 : Int32) (p3 : Int32)  :
    Met l Z consts_1 x code maxLocals ret room_1 #[.int p0, .int p1, .int p2, .int p3] h [] [] (fun v h' => v = some (.int 1)) := by
  have G0 := G
  obtain ⟨hw, hEL, SC, hz⟩ := G
  have hw1 : ∀ d ∈ StrChars.Road.words, d.before a0 Z = true := fun d q => hw d (sub1 d q)
  have hwA : ∀ d ∈ Bundle.stringAtoms, d.before a0 Z = true := fun d q => hw d (subA d q)
  have hw2 : ∀ d ∈ wordsS, d.before a0 Z = true := fun d q => hw d (sub2 d q)
  refine Met.of (plainFor_of_name pn_2) ?_
  intro p e s m below meth c T hnm hret hlk hby hml hs w
  have hZ0 := w.old
  refine Run.cast (ef_law m p0 p1 p2 p3) ?_
  refine s_iload_n w (hb hby at_0) rfl (pc' := 1) rfl ?_
  refine s_iconst w (hb hby at_1) (v := 3) rfl (pc' := 2) rfl ?_
  refine s_iand w (hb hby at_2) (pc' := 3) rfl ?_
  generalize hv1 : ((p3 &&& 3) : Int32) = v1
  refine s_istore w #[.val (.int p0), .val (.int p1), .val (.int p2), .val (.int p3), .val (.int v1), .unset, .unset, .unset, .unset, .unset, .unset] (hb hby at_3) rfl (pc' := 5) rfl ?_
  refine s_iload_n w (hb hby at_5) rfl (pc' := 6) rfl ?_
  refine w_static w hEL (y := (⟨"com/example/benchwire/benchwire/protocol/hl7/MllpCanCarryPinLaw", "draw", "(I)C"⟩ : MethodName)) (hw _ (List.mem_of_getElem? (i := 0) rfl)) (hw _ (List.mem_of_getElem? (i := 1) rfl)) (hw _ (List.mem_of_getElem? (i := 2) rfl)) (hw _ (List.mem_of_getElem? (i := 3) rfl)) (by decide) (rm_draw G0 h p0) all0 all0 (argsL := [.int p0]) (rest := []) (lenOf (by decide +kernel : parseMethodDescriptor "(I)C" = some ⟨[.int], (some .char)⟩) rfl) rfl rfl (hb hby at_6) (by rw [hml]; rfl) (W := 0) (Nat.le_of_eq rfl) (by decide) (by decide) (by decide) (by decide) (pc' := 9) rfl fun u2 T h3 w K4 P5 => ?_
  obtain ⟨y6, rfl, rfl, ly6⟩ := P5
  show Run p e below _ T (mkF m 9 #[.val (.int p0), .val (.int p1), .val (.int p2), .val (.int p3), .val (.int v1), .unset, .unset, .unset, .unset, .unset, .unset] [.int y6])
  refine s_istore w #[.val (.int p0), .val (.int p1), .val (.int p2), .val (.int p3), .val (.int v1), .val (.int y6), .unset, .unset, .unset, .unset, .unset] (hb hby at_9) rfl (pc' := 11) rfl ?_
  refine s_iload_n w (hb hby at_11) rfl (pc' := 12) rfl ?_
  refine w_static w hEL (y := (⟨"com/example/benchwire/benchwire/protocol/hl7/MllpCanCarryPinLaw", "draw", "(I)C"⟩ : MethodName)) (hw _ (List.mem_of_getElem? (i := 0) rfl)) (hw _ (List.mem_of_getElem? (i := 1) rfl)) (hw _ (List.mem_of_getElem? (i := 2) rfl)) (hw _ (List.mem_of_getElem? (i := 3) rfl)) (by decide) (rm_draw G0 h p1) all0 all0 (argsL := [.int p1]) (rest := []) (lenOf (by decide +kernel : parseMethodDescriptor "(I)C" = some ⟨[.int], (some .char)⟩) rfl) rfl rfl (hb hby at_12) (by rw [hml]; rfl) (W := 0) (Nat.le_of_eq rfl) (by decide) (by decide) (by decide) (by decide) (pc' := 15) rfl fun u7 T h8 w K9 P10 => ?_
  obtain ⟨y11, rfl, rfl, ly11⟩ := P10
  show Run p e below _ T (mkF m 15 #[.val (.int p0), .val (.int p1), .val (.int p2), .val (.int p3), .val (.int v1), .val (.int y6), .unset, .unset, .unset, .unset, .unset] [.int y11])
  refine s_istore w #[.val (.int p0), .val (.int p1), .val (.int p2), .val (.int p3), .val (.int v1), .val (.int y6), .val (.int y11), .unset, .unset, .unset, .unset] (hb hby at_15) rfl (pc' := 17) rfl ?_
  refine s_iload_n w (hb hby at_17) rfl (pc' := 18) rfl ?_
  refine w_static w hEL (y := (⟨"com/example/benchwire/benchwire/protocol/hl7/MllpCanCarryPinLaw", "draw", "(I)C"⟩ : MethodName)) (hw _ (List.mem_of_getElem? (i := 0) rfl)) (hw _ (List.mem_of_getElem? (i := 1) rfl)) (hw _ (List.mem_of_getElem? (i := 2) rfl)) (hw _ (List.mem_of_getElem? (i := 3) rfl)) (by decide) (rm_draw G0 h p2) all0 all0 (argsL := [.int p2]) (rest := []) (lenOf (by decide +kernel : parseMethodDescriptor "(I)C" = some ⟨[.int], (some .char)⟩) rfl) rfl rfl (hb hby at_18) (by rw [hml]; rfl) (W := 0) (Nat.le_of_eq rfl) (by decide) (by decide) (by decide) (by decide) (pc' := 21) rfl fun u12 T h13 w K14 P15 => ?_
  obtain ⟨y16, rfl, rfl, ly16⟩ := P15
  show Run p e below _ T (mkF m 21 #[.val (.int p0), .val (.int p1), .val (.int p2), .val (.int p3), .val (.int v1), .val (.int y6), .val (.int y11), .unset, .unset, .unset, .unset] [.int y16])
  refine s_istore w #[.val (.int p0), .val (.int p1), .val (.int p2), .val (.int p3), .val (.int v1), .val (.int y6), .val (.int y11), .val (.int y16), .unset, .unset, .unset] (hb hby at_21) rfl (pc' := 23) rfl ?_
  refine s_iload w (hb hby at_23) rfl (pc' := 25) rfl ?_
  refine s_if_ne w (hb hby at_25) (by decide) (pc1 := 28) rfl (pc2 := 46) rfl (fun ct17 => ?_) (fun ct17 => ?_)
  · skip
    refine w_new w (hw _ (List.mem_of_getElem? (i := 5) rfl)) (hw _ (List.mem_of_getElem? (i := 6) rfl)) (hw _ (List.mem_of_getElem? (i := 7) rfl)) (hb hby at_28) (pc' := 31) rfl (by decide) (by decide) fun T h18 x19 w E20 q21 r22 A23 D24 => ?_
    have F_coder_x19 : Fld Z h18 x19 "java/lang/String" "coder" "B" (.int 0) := D24 (Or.inr (hw _ (List.mem_of_getElem? (i := 31) rfl))) (ty := .byte) (by decide)
    have F_value_x19 : Fld Z h18 x19 "java/lang/String" "value" "[B" (.null) := D24 (Or.inr (hw _ (List.mem_of_getElem? (i := 33) rfl))) (ty := (.array .byte)) (by decide)
    refine s_dup w (hb hby at_31) rfl (pc' := 32) rfl ?_
    refine s_iconst w (hb hby at_32) (v := 0) rfl (pc' := 33) rfl ?_
    refine w_newP w (hw _ (List.mem_of_getElem? (i := 4) rfl)) rfl rfl (hb hby at_33) (by decide) (n := 0) (by decide) (by decide) (pc' := 35) rfl (by decide) (by decide) fun T h25 x26 k27 w E28 q29 r30 V31 => ?_
    refine w_strInit w hEL hmem hw1 hw2 (hw _ (List.mem_of_getElem? (i := 8) rfl)) (hw _ (List.mem_of_getElem? (i := 9) rfl)) (cs := []) (n := 0) (A23.ext E28) (F_value_x19.ext E28) (F_coder_x19.ext E28) (show Arv Z h25 x26 k27 .char 0 (([] : List Int32).map Value.int) (.int 0) from V31) SC hz rfl rfl (by decide) (by intro c q; cases q) (List.mem_of_getElem? (i := 1) rfl) (Or.inr r22) (Nat.le_trans hZ0.1 r22) (hb hby at_35) (by rw [hml]; rfl) (W := 1) (Nat.le_of_eq rfl) (by decide) (by decide) (by decide) (by decide) (pc' := 38) rfl fun T h32 w K33 F34 => ?_
    have E35 := Ext.kp (Ext.tr E20 E28) K33 (allS q21 all0)
    refine s_astore w #[.val (.int p0), .val (.int p1), .val (.int p2), .val (.int p3), .val (.int v1), .val (.int y6), .val (.int y11), .val (.int y16), .val (.ref x19), .unset, .unset] (hb hby at_38) rfl rfl (pc' := 40) rfl ?_
    refine s_iconst w (hb hby at_40) (v := 1) rfl (pc' := 41) rfl ?_
    refine s_istore w #[.val (.int p0), .val (.int p1), .val (.int p2), .val (.int p3), .val (.int v1), .val (.int y6), .val (.int y11), .val (.int y16), .val (.ref x19), .val (.int 1), .unset] (hb hby at_41) rfl (pc' := 43) rfl ?_
    refine s_goto w (hb hby at_43) (by decide) (pc' := 209) rfl ?_
    have he : ((1 : Int32) = 1 ∧ True) ∨ ((1 : Int32) = 0 ∧ ¬ (True)) := Or.inl ⟨rfl, trivial⟩
    refine s_aload w (hb hby at_209) rfl rfl (pc' := 211) rfl ?_
    refine w_static w hEL (y := (⟨"com/example/benchwire/benchwire/protocol/hl7/Mllp", "canCarry", "(Ljava/lang/String;)Z"⟩ : MethodName)) (hw _ (List.mem_of_getElem? (i := 37) rfl)) (hw _ (List.mem_of_getElem? (i := 38) rfl)) (hw _ (List.mem_of_getElem? (i := 39) rfl)) (hw _ (List.mem_of_getElem? (i := 40) rfl)) (by decide) (rm_cc G0 h32 x19 _ F34 (by intro c q; cases q)) all0 all0 (argsL := [.ref x19]) (rest := []) (lenOf (by decide +kernel : parseMethodDescriptor "(Ljava/lang/String;)Z" = some ⟨[(.object "java/lang/String")], (some .boolean)⟩) rfl) rfl rfl (hb hby at_211) (by rw [hml]; rfl) (W := 0) (Nat.le_of_eq rfl) (by decide) (by decide) (by decide) (by decide) (pc' := 214) rfl fun u36 T h37 w K38 P39 => ?_
    obtain ⟨rfl, rfl⟩ := P39
    generalize hg40 : (if (11 : Int32) ∉ ([] : List Int32) ∧ (28 : Int32) ∉ ([] : List Int32) then (1 : Int32) else 0) = g40
    show Run p e below _ T (mkF m 214 #[.val (.int p0), .val (.int p1), .val (.int p2), .val (.int p3), .val (.int v1), .val (.int y6), .val (.int y11), .val (.int y16), .val (.ref x19), .val (.int 1), .unset] [.int g40])
    refine s_iload w (hb hby at_214) rfl (pc' := 216) rfl ?_
    refine s_icmp_ne w (hb hby at_216) (by decide) (pc1 := 219) rfl (pc2 := 223) rfl (fun ct41 => ?_) (fun ct41 => ?_)
    · -- g40 = 1
      refine s_iconst w (hb hby at_219) (v := 1) rfl (pc' := 220) rfl ?_
      refine s_goto w (hb hby at_220) (by decide) (pc' := 224) rfl ?_
      exact w_ireturn w hEL hs hlk hret rfl (Or.inr (Or.inl rfl)) (hb hby at_224) (by decide) (by decide) rfl
    · -- ¬ (g40 = 1)
      refine s_iconst w (hb hby at_223) (v := 0) rfl (pc' := 224) rfl ?_
      refine absurd (val he hg40 ?_) ct41
      simp only [List.mem_cons, List.not_mem_nil, or_false, not_or, not_false_eq_true, eq_comm (a := (11 : Int32)), eq_comm (a := (28 : Int32))]
      all_goals (constructor <;> (intro q; simp_all only [not_false_eq_true, and_self, and_true, true_and]))
  · skip
    refine s_iload w (hb hby at_46) rfl (pc' := 48) rfl ?_
    refine s_iconst w (hb hby at_48) (v := 1) rfl (pc' := 49) rfl ?_
    refine s_icmp_ne w (hb hby at_49) (by decide) (pc1 := 52) rfl (pc2 := 84) rfl (fun ct42 => ?_) (fun ct42 => ?_)
    · skip
      refine s_iconst w (hb hby at_52) (v := 1) rfl (pc' := 53) rfl ?_
      refine w_newP w (hw _ (List.mem_of_getElem? (i := 4) rfl)) rfl rfl (hb hby at_53) (by decide) (n := 1) (by decide) (by decide) (pc' := 55) rfl (by decide) (by decide) fun T h43 x44 k45 w E46 q47 r48 V49 => ?_
      refine s_astore w #[.val (.int p0), .val (.int p1), .val (.int p2), .val (.int p3), .val (.int v1), .val (.int y6), .val (.int y11), .val (.int y16), .unset, .unset, .val (.ref x44)] (hb hby at_55) rfl rfl (pc' := 57) rfl ?_
      refine s_aload w (hb hby at_57) rfl rfl (pc' := 59) rfl ?_
      refine s_iconst w (hb hby at_59) (v := 0) rfl (pc' := 60) rfl ?_
      refine s_iload w (hb hby at_60) rfl (pc' := 62) rfl ?_
      refine w_stC w V49 (i := 0) (by decide) rfl (by decide) (Nat.le_of_ble_eq_true rfl) ly6.nar (hb hby at_62) (Or.inr r48) (pc' := 63) rfl fun T h50 w W51 V52 => ?_
      have E53 := Ext.wr' E46 W51 q47
      refine w_new w (hw _ (List.mem_of_getElem? (i := 5) rfl)) (hw _ (List.mem_of_getElem? (i := 6) rfl)) (hw _ (List.mem_of_getElem? (i := 7) rfl)) (hb hby at_63) (pc' := 66) rfl (by decide) (by decide) fun T h54 x55 w E56 q57 r58 A59 D60 => ?_
      have F_coder_x55 : Fld Z h54 x55 "java/lang/String" "coder" "B" (.int 0) := D60 (Or.inr (hw _ (List.mem_of_getElem? (i := 31) rfl))) (ty := .byte) (by decide)
      have F_value_x55 : Fld Z h54 x55 "java/lang/String" "value" "[B" (.null) := D60 (Or.inr (hw _ (List.mem_of_getElem? (i := 33) rfl))) (ty := (.array .byte)) (by decide)
      refine s_dup w (hb hby at_66) rfl (pc' := 67) rfl ?_
      refine s_aload w (hb hby at_67) rfl rfl (pc' := 69) rfl ?_
      refine w_strInitP w hw1 (hw _ (List.mem_of_getElem? (i := 6) rfl)) (hw _ (List.mem_of_getElem? (i := 8) rfl)) (hw _ (List.mem_of_getElem? (i := 9) rfl)) (cs := [y6]) (n := 1) A59 F_value_x55 F_coder_x55 (show Arv Z h54 x44 k45 .char 1 (([y6] : List Int32).map Value.int) (.int 0) from (V52.ext E56)) SC hz rfl rfl (by decide) (by decide) (by intro c q; simp only [List.mem_cons, List.not_mem_nil, or_false] at q; rcases q with rfl <;> first | exact ly6) (List.mem_of_getElem? (i := 0) rfl) (Or.inr r58) (Nat.le_trans hZ0.1 r58) (hb hby at_69) (by rw [hml]; rfl) (W := 1) (Nat.le_of_eq rfl) (by decide) (by decide) (by decide) (by decide) (pc' := 72) rfl fun T h61 w K62 F63 => ?_
      have E64 := Ext.kp E56 K62 (allS q57 all0)
      refine s_astore w #[.val (.int p0), .val (.int p1), .val (.int p2), .val (.int p3), .val (.int v1), .val (.int y6), .val (.int y11), .val (.int y16), .val (.ref x55), .unset, .val (.ref x44)] (hb hby at_72) rfl rfl (pc' := 74) rfl ?_
      refine s_iload w (hb hby at_74) rfl (pc' := 76) rfl ?_
      refine w_static w hEL (y := (⟨"com/example/benchwire/benchwire/protocol/hl7/MllpCanCarryPinLaw", "free", "(C)Z"⟩ : MethodName)) (hw _ (List.mem_of_getElem? (i := 34) rfl)) (hw _ (List.mem_of_getElem? (i := 35) rfl)) (hw _ (List.mem_of_getElem? (i := 2) rfl)) (hw _ (List.mem_of_getElem? (i := 36) rfl)) (by decide) (rm_free G0 h61 y6) all0 all0 (argsL := [.int y6]) (rest := []) (lenOf (by decide +kernel : parseMethodDescriptor "(C)Z" = some ⟨[.char], (some .boolean)⟩) rfl) rfl rfl (hb hby at_76) (by rw [hml]; rfl) (W := 0) (Nat.le_of_eq rfl) (by decide) (by decide) (by decide) (by decide) (pc' := 79) rfl fun u65 T h66 w K67 P68 => ?_
      obtain ⟨rfl, rfl⟩ := P68
      generalize hz69 : (if ¬ y6 = 11 ∧ ¬ y6 = 28 then (1 : Int32) else 0) = z69
      show Run p e below _ T (mkF m 79 #[.val (.int p0), .val (.int p1), .val (.int p2), .val (.int p3), .val (.int v1), .val (.int y6), .val (.int y11), .val (.int y16), .val (.ref x55), .unset, .val (.ref x44)] [.int z69])
      refine s_istore w #[.val (.int p0), .val (.int p1), .val (.int p2), .val (.int p3), .val (.int v1), .val (.int y6), .val (.int y11), .val (.int y16), .val (.ref x55), .val (.int z69), .val (.ref x44)] (hb hby at_79) rfl (pc' := 81) rfl ?_
      refine s_goto w (hb hby at_81) (by decide) (pc' := 209) rfl ?_
      have he : (z69 = 1 ∧ (¬ y6 = 11 ∧ ¬ y6 = 28)) ∨ (z69 = 0 ∧ ¬ ((¬ y6 = 11 ∧ ¬ y6 = 28))) := by rw [← hz69]; by_cases q : (¬ y6 = 11 ∧ ¬ y6 = 28); exact Or.inl ⟨if_pos q, q⟩; exact Or.inr ⟨if_neg q, q⟩
      refine s_aload w (hb hby at_209) rfl rfl (pc' := 211) rfl ?_
      refine w_static w hEL (y := (⟨"com/example/benchwire/benchwire/protocol/hl7/Mllp", "canCarry", "(Ljava/lang/String;)Z"⟩ : MethodName)) (hw _ (List.mem_of_getElem? (i := 37) rfl)) (hw _ (List.mem_of_getElem? (i := 38) rfl)) (hw _ (List.mem_of_getElem? (i := 39) rfl)) (hw _ (List.mem_of_getElem? (i := 40) rfl)) (by decide) (rm_cc G0 h61 x55 _ F63 (by intro c q; simp only [List.mem_cons, List.not_mem_nil, or_false] at q; rcases q with rfl <;> first | exact ly6)) all0 all0 (argsL := [.ref x55]) (rest := []) (lenOf (by decide +kernel : parseMethodDescriptor "(Ljava/lang/String;)Z" = some ⟨[(.object "java/lang/String")], (some .boolean)⟩) rfl) rfl rfl (hb hby at_211) (by rw [hml]; rfl) (W := 0) (Nat.le_of_eq rfl) (by decide) (by decide) (by decide) (by decide) (pc' := 214) rfl fun u70 T h71 w K72 P73 => ?_
      obtain ⟨rfl, rfl⟩ := P73
      generalize hg74 : (if (11 : Int32) ∉ ([y6] : List Int32) ∧ (28 : Int32) ∉ ([y6] : List Int32) then (1 : Int32) else 0) = g74
      show Run p e below _ T (mkF m 214 #[.val (.int p0), .val (.int p1), .val (.int p2), .val (.int p3), .val (.int v1), .val (.int y6), .val (.int y11), .val (.int y16), .val (.ref x55), .val (.int z69), .val (.ref x44)] [.int g74])
      refine s_iload w (hb hby at_214) rfl (pc' := 216) rfl ?_
      refine s_icmp_ne w (hb hby at_216) (by decide) (pc1 := 219) rfl (pc2 := 223) rfl (fun ct75 => ?_) (fun ct75 => ?_)
      · -- g74 = z69
        refine s_iconst w (hb hby at_219) (v := 1) rfl (pc' := 220) rfl ?_
        refine s_goto w (hb hby at_220) (by decide) (pc' := 224) rfl ?_
        exact w_ireturn w hEL hs hlk hret rfl (Or.inr (Or.inl rfl)) (hb hby at_224) (by decide) (by decide) rfl
      · -- ¬ (g74 = z69)
        refine s_iconst w (hb hby at_223) (v := 0) rfl (pc' := 224) rfl ?_
        refine absurd (val he hg74 ?_) ct75
        simp only [List.mem_cons, List.not_mem_nil, or_false, not_or, not_false_eq_true, eq_comm (a := (11 : Int32)), eq_comm (a := (28 : Int32))]
        all_goals (constructor <;> (intro q; simp_all only [not_false_eq_true, and_self, and_true, true_and]))
    · skip
      refine s_iload w (hb hby at_84) rfl (pc' := 86) rfl ?_
      refine s_iconst w (hb hby at_86) (v := 2) rfl (pc' := 87) rfl ?_
      refine s_icmp_ne w (hb hby at_87) (by decide) (pc1 := 90) rfl (pc2 := 144) rfl (fun ct76 => ?_) (fun ct76 => ?_)
      · skip
        refine s_iconst w (hb hby at_90) (v := 2) rfl (pc' := 91) rfl ?_
        refine w_newP w (hw _ (List.mem_of_getElem? (i := 4) rfl)) rfl rfl (hb hby at_91) (by decide) (n := 2) (by decide) (by decide) (pc' := 93) rfl (by decide) (by decide) fun T h77 x78 k79 w E80 q81 r82 V83 => ?_
        refine s_astore w #[.val (.int p0), .val (.int p1), .val (.int p2), .val (.int p3), .val (.int v1), .val (.int y6), .val (.int y11), .val (.int y16), .unset, .unset, .val (.ref x78)] (hb hby at_93) rfl rfl (pc' := 95) rfl ?_
        refine s_aload w (hb hby at_95) rfl rfl (pc' := 97) rfl ?_
        refine s_iconst w (hb hby at_97) (v := 0) rfl (pc' := 98) rfl ?_
        refine s_iload w (hb hby at_98) rfl (pc' := 100) rfl ?_
        refine w_stC w V83 (i := 0) (by decide) rfl (by decide) (Nat.le_of_ble_eq_true rfl) ly6.nar (hb hby at_100) (Or.inr r82) (pc' := 101) rfl fun T h84 w W85 V86 => ?_
        have E87 := Ext.wr' E80 W85 q81
        refine s_aload w (hb hby at_101) rfl rfl (pc' := 103) rfl ?_
        refine s_iconst w (hb hby at_103) (v := 1) rfl (pc' := 104) rfl ?_
        refine s_iload w (hb hby at_104) rfl (pc' := 106) rfl ?_
        refine w_stC w V86 (i := 1) (by decide) rfl (by decide) (Nat.le_of_ble_eq_true rfl) ly11.nar (hb hby at_106) (Or.inr r82) (pc' := 107) rfl fun T h88 w W89 V90 => ?_
        have E91 := Ext.wr' E87 W89 q81
        refine w_new w (hw _ (List.mem_of_getElem? (i := 5) rfl)) (hw _ (List.mem_of_getElem? (i := 6) rfl)) (hw _ (List.mem_of_getElem? (i := 7) rfl)) (hb hby at_107) (pc' := 110) rfl (by decide) (by decide) fun T h92 x93 w E94 q95 r96 A97 D98 => ?_
        have F_coder_x93 : Fld Z h92 x93 "java/lang/String" "coder" "B" (.int 0) := D98 (Or.inr (hw _ (List.mem_of_getElem? (i := 31) rfl))) (ty := .byte) (by decide)
        have F_value_x93 : Fld Z h92 x93 "java/lang/String" "value" "[B" (.null) := D98 (Or.inr (hw _ (List.mem_of_getElem? (i := 33) rfl))) (ty := (.array .byte)) (by decide)
        refine s_dup w (hb hby at_110) rfl (pc' := 111) rfl ?_
        refine s_aload w (hb hby at_111) rfl rfl (pc' := 113) rfl ?_
        refine w_strInitP w hw1 (hw _ (List.mem_of_getElem? (i := 6) rfl)) (hw _ (List.mem_of_getElem? (i := 8) rfl)) (hw _ (List.mem_of_getElem? (i := 9) rfl)) (cs := [y6, y11]) (n := 2) A97 F_value_x93 F_coder_x93 (show Arv Z h92 x78 k79 .char 2 (([y6, y11] : List Int32).map Value.int) (.int 0) from (V90.ext E94)) SC hz rfl rfl (by decide) (by decide) (by intro c q; simp only [List.mem_cons, List.not_mem_nil, or_false] at q; rcases q with rfl | rfl <;> first | exact ly6 | exact ly11) (List.mem_of_getElem? (i := 0) rfl) (Or.inr r96) (Nat.le_trans hZ0.1 r96) (hb hby at_113) (by rw [hml]; rfl) (W := 1) (Nat.le_of_eq rfl) (by decide) (by decide) (by decide) (by decide) (pc' := 116) rfl fun T h99 w K100 F101 => ?_
        have E102 := Ext.kp E94 K100 (allS q95 all0)
        refine s_astore w #[.val (.int p0), .val (.int p1), .val (.int p2), .val (.int p3), .val (.int v1), .val (.int y6), .val (.int y11), .val (.int y16), .val (.ref x93), .unset, .val (.ref x78)] (hb hby at_116) rfl rfl (pc' := 118) rfl ?_
        refine Run.joinW w (α := Int32) (C := fun eJ => (eJ = 1 ∧ ((¬ y6 = 11 ∧ ¬ y6 = 28) ∧ (¬ y11 = 11 ∧ ¬ y11 = 28))) ∨ (eJ = 0 ∧ ¬ (((¬ y6 = 11 ∧ ¬ y6 = 28) ∧ (¬ y11 = 11 ∧ ¬ y11 = 28))))) (F := fun eJ => (mkF m 139 #[.val (.int p0), .val (.int p1), .val (.int p2), .val (.int p3), .val (.int v1), .val (.int y6), .val (.int y11), .val (.int y16), .val (.ref x93), .unset, .val (.ref x78)] [.int eJ])) (fun T eJ w heJ => ?_) (fun J103 => ?_)
        · show Run p e below _ T (mkF m 139 #[.val (.int p0), .val (.int p1), .val (.int p2), .val (.int p3), .val (.int v1), .val (.int y6), .val (.int y11), .val (.int y16), .val (.ref x93), .unset, .val (.ref x78)] [.int eJ])
          have he := heJ
          refine s_istore w #[.val (.int p0), .val (.int p1), .val (.int p2), .val (.int p3), .val (.int v1), .val (.int y6), .val (.int y11), .val (.int y16), .val (.ref x93), .val (.int eJ), .val (.ref x78)] (hb hby at_139) rfl (pc' := 141) rfl ?_
          refine s_goto w (hb hby at_141) (by decide) (pc' := 209) rfl ?_
          refine s_aload w (hb hby at_209) rfl rfl (pc' := 211) rfl ?_
          refine w_static w hEL (y := (⟨"com/example/benchwire/benchwire/protocol/hl7/Mllp", "canCarry", "(Ljava/lang/String;)Z"⟩ : MethodName)) (hw _ (List.mem_of_getElem? (i := 37) rfl)) (hw _ (List.mem_of_getElem? (i := 38) rfl)) (hw _ (List.mem_of_getElem? (i := 39) rfl)) (hw _ (List.mem_of_getElem? (i := 40) rfl)) (by decide) (rm_cc G0 h99 x93 _ F101 (by intro c q; simp only [List.mem_cons, List.not_mem_nil, or_false] at q; rcases q with rfl | rfl <;> first | exact ly6 | exact ly11)) all0 all0 (argsL := [.ref x93]) (rest := []) (lenOf (by decide +kernel : parseMethodDescriptor "(Ljava/lang/String;)Z" = some ⟨[(.object "java/lang/String")], (some .boolean)⟩) rfl) rfl rfl (hb hby at_211) (by rw [hml]; rfl) (W := 0) (Nat.le_of_eq rfl) (by decide) (by decide) (by decide) (by decide) (pc' := 214) rfl fun u104 T h105 w K106 P107 => ?_
          obtain ⟨rfl, rfl⟩ := P107
          generalize hg108 : (if (11 : Int32) ∉ ([y6, y11] : List Int32) ∧ (28 : Int32) ∉ ([y6, y11] : List Int32) then (1 : Int32) else 0) = g108
          show Run p e below _ T (mkF m 214 #[.val (.int p0), .val (.int p1), .val (.int p2), .val (.int p3), .val (.int v1), .val (.int y6), .val (.int y11), .val (.int y16), .val (.ref x93), .val (.int eJ), .val (.ref x78)] [.int g108])
          refine s_iload w (hb hby at_214) rfl (pc' := 216) rfl ?_
          refine s_icmp_ne w (hb hby at_216) (by decide) (pc1 := 219) rfl (pc2 := 223) rfl (fun ct109 => ?_) (fun ct109 => ?_)
          · -- g108 = eJ
            refine s_iconst w (hb hby at_219) (v := 1) rfl (pc' := 220) rfl ?_
            refine s_goto w (hb hby at_220) (by decide) (pc' := 224) rfl ?_
            exact w_ireturn w hEL hs hlk hret rfl (Or.inr (Or.inl rfl)) (hb hby at_224) (by decide) (by decide) rfl
          · -- ¬ (g108 = eJ)
            refine s_iconst w (hb hby at_223) (v := 0) rfl (pc' := 224) rfl ?_
            refine absurd (val he hg108 ?_) ct109
            simp only [List.mem_cons, List.not_mem_nil, or_false, not_or, not_false_eq_true, eq_comm (a := (11 : Int32)), eq_comm (a := (28 : Int32))]
            all_goals (constructor <;> (intro q; simp_all only [not_false_eq_true, and_self, and_true, true_and]))
        · skip
          refine s_iload w (hb hby at_118) rfl (pc' := 120) rfl ?_
          refine w_static w hEL (y := (⟨"com/example/benchwire/benchwire/protocol/hl7/MllpCanCarryPinLaw", "free", "(C)Z"⟩ : MethodName)) (hw _ (List.mem_of_getElem? (i := 34) rfl)) (hw _ (List.mem_of_getElem? (i := 35) rfl)) (hw _ (List.mem_of_getElem? (i := 2) rfl)) (hw _ (List.mem_of_getElem? (i := 36) rfl)) (by decide) (rm_free G0 h99 y6) all0 all0 (argsL := [.int y6]) (rest := []) (lenOf (by decide +kernel : parseMethodDescriptor "(C)Z" = some ⟨[.char], (some .boolean)⟩) rfl) rfl rfl (hb hby at_120) (by rw [hml]; rfl) (W := 0) (Nat.le_of_eq rfl) (by decide) (by decide) (by decide) (by decide) (pc' := 123) rfl fun u110 T h111 w K112 P113 => ?_
          obtain ⟨rfl, rfl⟩ := P113
          generalize hz114 : (if ¬ y6 = 11 ∧ ¬ y6 = 28 then (1 : Int32) else 0) = z114
          show Run p e below _ T (mkF m 123 #[.val (.int p0), .val (.int p1), .val (.int p2), .val (.int p3), .val (.int v1), .val (.int y6), .val (.int y11), .val (.int y16), .val (.ref x93), .unset, .val (.ref x78)] [.int z114])
          refine s_if_eq w (hb hby at_123) (by decide) (pc1 := 126) rfl (pc2 := 138) rfl (fun ct115 => ?_) (fun ct115 => ?_)
          · -- ¬ (z114 = 0)
            refine s_iload w (hb hby at_126) rfl (pc' := 128) rfl ?_
            refine w_static w hEL (y := (⟨"com/example/benchwire/benchwire/protocol/hl7/MllpCanCarryPinLaw", "free", "(C)Z"⟩ : MethodName)) (hw _ (List.mem_of_getElem? (i := 34) rfl)) (hw _ (List.mem_of_getElem? (i := 35) rfl)) (hw _ (List.mem_of_getElem? (i := 2) rfl)) (hw _ (List.mem_of_getElem? (i := 36) rfl)) (by decide) (rm_free G0 h99 y11) all0 all0 (argsL := [.int y11]) (rest := []) (lenOf (by decide +kernel : parseMethodDescriptor "(C)Z" = some ⟨[.char], (some .boolean)⟩) rfl) rfl rfl (hb hby at_128) (by rw [hml]; rfl) (W := 0) (Nat.le_of_eq rfl) (by decide) (by decide) (by decide) (by decide) (pc' := 131) rfl fun u116 T h117 w K118 P119 => ?_
            obtain ⟨rfl, rfl⟩ := P119
            generalize hz120 : (if ¬ y11 = 11 ∧ ¬ y11 = 28 then (1 : Int32) else 0) = z120
            show Run p e below _ T (mkF m 131 #[.val (.int p0), .val (.int p1), .val (.int p2), .val (.int p3), .val (.int v1), .val (.int y6), .val (.int y11), .val (.int y16), .val (.ref x93), .unset, .val (.ref x78)] [.int z120])
            refine s_if_eq w (hb hby at_131) (by decide) (pc1 := 134) rfl (pc2 := 138) rfl (fun ct121 => ?_) (fun ct121 => ?_)
            · -- ¬ (z120 = 0)
              refine s_iconst w (hb hby at_134) (v := 1) rfl (pc' := 135) rfl ?_
              refine s_goto w (hb hby at_135) (by decide) (pc' := 139) rfl ?_
              exact J103 _ 1 w (Or.inl ⟨rfl, ⟨Decidable.byContradiction (fun q => absurd (show z114 = 0 by rw [← hz114, if_neg q]) ct115), Decidable.byContradiction (fun q => absurd (show z120 = 0 by rw [← hz120, if_neg q]) ct121)⟩⟩)
            · -- z120 = 0
              refine s_iconst w (hb hby at_138) (v := 0) rfl (pc' := 139) rfl ?_
              exact J103 _ 0 w (Or.inr ⟨rfl, fun q => absurd (show z120 = 1 by rw [← hz120, if_pos q.2]) (by rw [ct121]; decide)⟩)
          · -- z114 = 0
            refine s_iconst w (hb hby at_138) (v := 0) rfl (pc' := 139) rfl ?_
            exact J103 _ 0 w (Or.inr ⟨rfl, fun q => absurd (show z114 = 1 by rw [← hz114, if_pos q.1]) (by rw [ct115]; decide)⟩)
      · skip
        refine s_iconst w (hb hby at_144) (v := 3) rfl (pc' := 145) rfl ?_
        refine w_newP w (hw _ (List.mem_of_getElem? (i := 4) rfl)) rfl rfl (hb hby at_145) (by decide) (n := 3) (by decide) (by decide) (pc' := 147) rfl (by decide) (by decide) fun T h122 x123 k124 w E125 q126 r127 V128 => ?_
        refine s_astore w #[.val (.int p0), .val (.int p1), .val (.int p2), .val (.int p3), .val (.int v1), .val (.int y6), .val (.int y11), .val (.int y16), .unset, .unset, .val (.ref x123)] (hb hby at_147) rfl rfl (pc' := 149) rfl ?_
        refine s_aload w (hb hby at_149) rfl rfl (pc' := 151) rfl ?_
        refine s_iconst w (hb hby at_151) (v := 0) rfl (pc' := 152) rfl ?_
        refine s_iload w (hb hby at_152) rfl (pc' := 154) rfl ?_
        refine w_stC w V128 (i := 0) (by decide) rfl (by decide) (Nat.le_of_ble_eq_true rfl) ly6.nar (hb hby at_154) (Or.inr r127) (pc' := 155) rfl fun T h129 w W130 V131 => ?_
        have E132 := Ext.wr' E125 W130 q126
        refine s_aload w (hb hby at_155) rfl rfl (pc' := 157) rfl ?_
        refine s_iconst w (hb hby at_157) (v := 1) rfl (pc' := 158) rfl ?_
        refine s_iload w (hb hby at_158) rfl (pc' := 160) rfl ?_
        refine w_stC w V131 (i := 1) (by decide) rfl (by decide) (Nat.le_of_ble_eq_true rfl) ly11.nar (hb hby at_160) (Or.inr r127) (pc' := 161) rfl fun T h133 w W134 V135 => ?_
        have E136 := Ext.wr' E132 W134 q126
        refine s_aload w (hb hby at_161) rfl rfl (pc' := 163) rfl ?_
        refine s_iconst w (hb hby at_163) (v := 2) rfl (pc' := 164) rfl ?_
        refine s_iload w (hb hby at_164) rfl (pc' := 166) rfl ?_
        refine w_stC w V135 (i := 2) (by decide) rfl (by decide) (Nat.le_of_ble_eq_true rfl) ly16.nar (hb hby at_166) (Or.inr r127) (pc' := 167) rfl fun T h137 w W138 V139 => ?_
        have E140 := Ext.wr' E136 W138 q126
        refine w_new w (hw _ (List.mem_of_getElem? (i := 5) rfl)) (hw _ (List.mem_of_getElem? (i := 6) rfl)) (hw _ (List.mem_of_getElem? (i := 7) rfl)) (hb hby at_167) (pc' := 170) rfl (by decide) (by decide) fun T h141 x142 w E143 q144 r145 A146 D147 => ?_
        have F_coder_x142 : Fld Z h141 x142 "java/lang/String" "coder" "B" (.int 0) := D147 (Or.inr (hw _ (List.mem_of_getElem? (i := 31) rfl))) (ty := .byte) (by decide)
        have F_value_x142 : Fld Z h141 x142 "java/lang/String" "value" "[B" (.null) := D147 (Or.inr (hw _ (List.mem_of_getElem? (i := 33) rfl))) (ty := (.array .byte)) (by decide)
        refine s_dup w (hb hby at_170) rfl (pc' := 171) rfl ?_
        refine s_aload w (hb hby at_171) rfl rfl (pc' := 173) rfl ?_
        refine w_strInitP w hw1 (hw _ (List.mem_of_getElem? (i := 6) rfl)) (hw _ (List.mem_of_getElem? (i := 8) rfl)) (hw _ (List.mem_of_getElem? (i := 9) rfl)) (cs := [y6, y11, y16]) (n := 3) A146 F_value_x142 F_coder_x142 (show Arv Z h141 x123 k124 .char 3 (([y6, y11, y16] : List Int32).map Value.int) (.int 0) from (V139.ext E143)) SC hz rfl rfl (by decide) (by decide) (by intro c q; simp only [List.mem_cons, List.not_mem_nil, or_false] at q; rcases q with rfl | rfl | rfl <;> first | exact ly6 | exact ly11 | exact ly16) (List.mem_of_getElem? (i := 0) rfl) (Or.inr r145) (Nat.le_trans hZ0.1 r145) (hb hby at_173) (by rw [hml]; rfl) (W := 1) (Nat.le_of_eq rfl) (by decide) (by decide) (by decide) (by decide) (pc' := 176) rfl fun T h148 w K149 F150 => ?_
        have E151 := Ext.kp E143 K149 (allS q144 all0)
        refine s_astore w #[.val (.int p0), .val (.int p1), .val (.int p2), .val (.int p3), .val (.int v1), .val (.int y6), .val (.int y11), .val (.int y16), .val (.ref x142), .unset, .val (.ref x123)] (hb hby at_176) rfl rfl (pc' := 178) rfl ?_
        refine Run.joinW w (α := Int32) (C := fun eJ => (eJ = 1 ∧ ((¬ y6 = 11 ∧ ¬ y6 = 28) ∧ (¬ y11 = 11 ∧ ¬ y11 = 28) ∧ (¬ y16 = 11 ∧ ¬ y16 = 28))) ∨ (eJ = 0 ∧ ¬ (((¬ y6 = 11 ∧ ¬ y6 = 28) ∧ (¬ y11 = 11 ∧ ¬ y11 = 28) ∧ (¬ y16 = 11 ∧ ¬ y16 = 28))))) (F := fun eJ => (mkF m 207 #[.val (.int p0), .val (.int p1), .val (.int p2), .val (.int p3), .val (.int v1), .val (.int y6), .val (.int y11), .val (.int y16), .val (.ref x142), .unset, .val (.ref x123)] [.int eJ])) (fun T eJ w heJ => ?_) (fun J152 => ?_)
        · show Run p e below _ T (mkF m 207 #[.val (.int p0), .val (.int p1), .val (.int p2), .val (.int p3), .val (.int v1), .val (.int y6), .val (.int y11), .val (.int y16), .val (.ref x142), .unset, .val (.ref x123)] [.int eJ])
          have he := heJ
          refine s_istore w #[.val (.int p0), .val (.int p1), .val (.int p2), .val (.int p3), .val (.int v1), .val (.int y6), .val (.int y11), .val (.int y16), .val (.ref x142), .val (.int eJ), .val (.ref x123)] (hb hby at_207) rfl (pc' := 209) rfl ?_
          refine s_aload w (hb hby at_209) rfl rfl (pc' := 211) rfl ?_
          refine w_static w hEL (y := (⟨"com/example/benchwire/benchwire/protocol/hl7/Mllp", "canCarry", "(Ljava/lang/String;)Z"⟩ : MethodName)) (hw _ (List.mem_of_getElem? (i := 37) rfl)) (hw _ (List.mem_of_getElem? (i := 38) rfl)) (hw _ (List.mem_of_getElem? (i := 39) rfl)) (hw _ (List.mem_of_getElem? (i := 40) rfl)) (by decide) (rm_cc G0 h148 x142 _ F150 (by intro c q; simp only [List.mem_cons, List.not_mem_nil, or_false] at q; rcases q with rfl | rfl | rfl <;> first | exact ly6 | exact ly11 | exact ly16)) all0 all0 (argsL := [.ref x142]) (rest := []) (lenOf (by decide +kernel : parseMethodDescriptor "(Ljava/lang/String;)Z" = some ⟨[(.object "java/lang/String")], (some .boolean)⟩) rfl) rfl rfl (hb hby at_211) (by rw [hml]; rfl) (W := 0) (Nat.le_of_eq rfl) (by decide) (by decide) (by decide) (by decide) (pc' := 214) rfl fun u153 T h154 w K155 P156 => ?_
          obtain ⟨rfl, rfl⟩ := P156
          generalize hg157 : (if (11 : Int32) ∉ ([y6, y11, y16] : List Int32) ∧ (28 : Int32) ∉ ([y6, y11, y16] : List Int32) then (1 : Int32) else 0) = g157
          show Run p e below _ T (mkF m 214 #[.val (.int p0), .val (.int p1), .val (.int p2), .val (.int p3), .val (.int v1), .val (.int y6), .val (.int y11), .val (.int y16), .val (.ref x142), .val (.int eJ), .val (.ref x123)] [.int g157])
          refine s_iload w (hb hby at_214) rfl (pc' := 216) rfl ?_
          refine s_icmp_ne w (hb hby at_216) (by decide) (pc1 := 219) rfl (pc2 := 223) rfl (fun ct158 => ?_) (fun ct158 => ?_)
          · -- g157 = eJ
            refine s_iconst w (hb hby at_219) (v := 1) rfl (pc' := 220) rfl ?_
            refine s_goto w (hb hby at_220) (by decide) (pc' := 224) rfl ?_
            exact w_ireturn w hEL hs hlk hret rfl (Or.inr (Or.inl rfl)) (hb hby at_224) (by decide) (by decide) rfl
          · -- ¬ (g157 = eJ)
            refine s_iconst w (hb hby at_223) (v := 0) rfl (pc' := 224) rfl ?_
            refine absurd (val he hg157 ?_) ct158
            simp only [List.mem_cons, List.not_mem_nil, or_false, not_or, not_false_eq_true, eq_comm (a := (11 : Int32)), eq_comm (a := (28 : Int32))]
            all_goals (constructor <;> (intro q; simp_all only [not_false_eq_true, and_self, and_true, true_and]))
        · skip
          refine s_iload w (hb hby at_178) rfl (pc' := 180) rfl ?_
          refine w_static w hEL (y := (⟨"com/example/benchwire/benchwire/protocol/hl7/MllpCanCarryPinLaw", "free", "(C)Z"⟩ : MethodName)) (hw _ (List.mem_of_getElem? (i := 34) rfl)) (hw _ (List.mem_of_getElem? (i := 35) rfl)) (hw _ (List.mem_of_getElem? (i := 2) rfl)) (hw _ (List.mem_of_getElem? (i := 36) rfl)) (by decide) (rm_free G0 h148 y6) all0 all0 (argsL := [.int y6]) (rest := []) (lenOf (by decide +kernel : parseMethodDescriptor "(C)Z" = some ⟨[.char], (some .boolean)⟩) rfl) rfl rfl (hb hby at_180) (by rw [hml]; rfl) (W := 0) (Nat.le_of_eq rfl) (by decide) (by decide) (by decide) (by decide) (pc' := 183) rfl fun u159 T h160 w K161 P162 => ?_
          obtain ⟨rfl, rfl⟩ := P162
          generalize hz163 : (if ¬ y6 = 11 ∧ ¬ y6 = 28 then (1 : Int32) else 0) = z163
          show Run p e below _ T (mkF m 183 #[.val (.int p0), .val (.int p1), .val (.int p2), .val (.int p3), .val (.int v1), .val (.int y6), .val (.int y11), .val (.int y16), .val (.ref x142), .unset, .val (.ref x123)] [.int z163])
          refine s_if_eq w (hb hby at_183) (by decide) (pc1 := 186) rfl (pc2 := 206) rfl (fun ct164 => ?_) (fun ct164 => ?_)
          · -- ¬ (z163 = 0)
            refine s_iload w (hb hby at_186) rfl (pc' := 188) rfl ?_
            refine w_static w hEL (y := (⟨"com/example/benchwire/benchwire/protocol/hl7/MllpCanCarryPinLaw", "free", "(C)Z"⟩ : MethodName)) (hw _ (List.mem_of_getElem? (i := 34) rfl)) (hw _ (List.mem_of_getElem? (i := 35) rfl)) (hw _ (List.mem_of_getElem? (i := 2) rfl)) (hw _ (List.mem_of_getElem? (i := 36) rfl)) (by decide) (rm_free G0 h148 y11) all0 all0 (argsL := [.int y11]) (rest := []) (lenOf (by decide +kernel : parseMethodDescriptor "(C)Z" = some ⟨[.char], (some .boolean)⟩) rfl) rfl rfl (hb hby at_188) (by rw [hml]; rfl) (W := 0) (Nat.le_of_eq rfl) (by decide) (by decide) (by decide) (by decide) (pc' := 191) rfl fun u165 T h166 w K167 P168 => ?_
            obtain ⟨rfl, rfl⟩ := P168
            generalize hz169 : (if ¬ y11 = 11 ∧ ¬ y11 = 28 then (1 : Int32) else 0) = z169
            show Run p e below _ T (mkF m 191 #[.val (.int p0), .val (.int p1), .val (.int p2), .val (.int p3), .val (.int v1), .val (.int y6), .val (.int y11), .val (.int y16), .val (.ref x142), .unset, .val (.ref x123)] [.int z169])
            refine s_if_eq w (hb hby at_191) (by decide) (pc1 := 194) rfl (pc2 := 206) rfl (fun ct170 => ?_) (fun ct170 => ?_)
            · -- ¬ (z169 = 0)
              refine s_iload w (hb hby at_194) rfl (pc' := 196) rfl ?_
              refine w_static w hEL (y := (⟨"com/example/benchwire/benchwire/protocol/hl7/MllpCanCarryPinLaw", "free", "(C)Z"⟩ : MethodName)) (hw _ (List.mem_of_getElem? (i := 34) rfl)) (hw _ (List.mem_of_getElem? (i := 35) rfl)) (hw _ (List.mem_of_getElem? (i := 2) rfl)) (hw _ (List.mem_of_getElem? (i := 36) rfl)) (by decide) (rm_free G0 h148 y16) all0 all0 (argsL := [.int y16]) (rest := []) (lenOf (by decide +kernel : parseMethodDescriptor "(C)Z" = some ⟨[.char], (some .boolean)⟩) rfl) rfl rfl (hb hby at_196) (by rw [hml]; rfl) (W := 0) (Nat.le_of_eq rfl) (by decide) (by decide) (by decide) (by decide) (pc' := 199) rfl fun u171 T h172 w K173 P174 => ?_
              obtain ⟨rfl, rfl⟩ := P174
              generalize hz175 : (if ¬ y16 = 11 ∧ ¬ y16 = 28 then (1 : Int32) else 0) = z175
              show Run p e below _ T (mkF m 199 #[.val (.int p0), .val (.int p1), .val (.int p2), .val (.int p3), .val (.int v1), .val (.int y6), .val (.int y11), .val (.int y16), .val (.ref x142), .unset, .val (.ref x123)] [.int z175])
              refine s_if_eq w (hb hby at_199) (by decide) (pc1 := 202) rfl (pc2 := 206) rfl (fun ct176 => ?_) (fun ct176 => ?_)
              · -- ¬ (z175 = 0)
                refine s_iconst w (hb hby at_202) (v := 1) rfl (pc' := 203) rfl ?_
                refine s_goto w (hb hby at_203) (by decide) (pc' := 207) rfl ?_
                exact J152 _ 1 w (Or.inl ⟨rfl, ⟨Decidable.byContradiction (fun q => absurd (show z163 = 0 by rw [← hz163, if_neg q]) ct164), Decidable.byContradiction (fun q => absurd (show z169 = 0 by rw [← hz169, if_neg q]) ct170), Decidable.byContradiction (fun q => absurd (show z175 = 0 by rw [← hz175, if_neg q]) ct176)⟩⟩)
              · -- z175 = 0
                refine s_iconst w (hb hby at_206) (v := 0) rfl (pc' := 207) rfl ?_
                exact J152 _ 0 w (Or.inr ⟨rfl, fun q => absurd (show z175 = 1 by rw [← hz175, if_pos q.2.2]) (by rw [ct176]; decide)⟩)
            · -- z169 = 0
              refine s_iconst w (hb hby at_206) (v := 0) rfl (pc' := 207) rfl ?_
              exact J152 _ 0 w (Or.inr ⟨rfl, fun q => absurd (show z169 = 1 by rw [← hz169, if_pos q.2.1]) (by rw [ct170]; decide)⟩)
          · -- z163 = 0
            refine s_iconst w (hb hby at_206) (v := 0) rfl (pc' := 207) rfl ?_
            exact J152 _ 0 w (Or.inr ⟨rfl, fun q => absurd (show z163 = 1 by rw [← hz163, if_pos q.1]) (by rw [ct164]; decide)⟩)
set_option maxRecDepth 65536 in
set_option maxHeartbeats 40000000 in
theorem comes_1 {Post : Tables → Env → Array Value → State → Outcome → State → Prop} (hpost : ∀ tb e args s v u, (limb_1_1.after args s (.returned v) u = true ∧ limb_1_2.after args s (.returned v) u = true ∧ True) → FramedW s (.returned v) u (Jvm.fieldLocs frame_1_writes args s ++ Jvm.arrayLocs frame_1_arrays args s ++ Jvm.staticLocs frame_1_statics s) room_1.cells room_1.slots → Post tb e args s (.returned v) u) :
    ArmFor flags0 classFile x code maxLocals ret World_1 tables_1 room_1 Calls_1 rest_1 Pre_1 Post := by
  intro l hfl _ _ p e ha hc hk s m args below hf hA hF happ hP
  obtain ⟨hcalls, hrest, hpre⟩ := hP
  obtain ⟨-, -, -, hnamed, -, -, -, hat⟩ := (Spec.applies_iff hf).mp happ
  obtain ⟨hg, hn⟩ := and_e (Cond.before_iff.mp (show (Jvm.Cond.and given_1 narrow_1).before args s = true from hpre))
  obtain ⟨hcnt, hg⟩ := and_e hg
  obtain ⟨w0, w1, w2, w3, rfl⟩ : ∃ w0 w1 w2 w3 : Value, args = #[w0, w1, w2, w3] := by
    have hs : args.size = 4 := by simpa [Cond.value, given_1] using hcnt
    obtain ⟨L⟩ := args
    match L, hs with
    | [w0, w1, w2, w3], _ => exact ⟨w0, w1, w2, w3, rfl⟩
  obtain ⟨g0, hg⟩ := and_e hg
  obtain ⟨g1, hg⟩ := and_e hg
  obtain ⟨g2, hg⟩ := and_e hg
  have g3 := hg
  obtain ⟨i0, e0⟩ := is_v g0
  obtain rfl : w0 = .int i0 := Option.some.inj e0
  obtain ⟨i1, e1⟩ := is_v g1
  obtain rfl : w1 = .int i1 := Option.some.inj e1
  obtain ⟨i2, e2⟩ := is_v g2
  obtain rfl : w2 = .int i2 := Option.some.inj e2
  obtain ⟨i3, e3⟩ := is_v g3
  obtain rfl : w3 = .int i3 := Option.some.inj e3
  have hw := fun d (hd : d ∈ tables_1) => atoms_spec (ws := Jvm.Cond.code x code maxLocals ret :: tables_1) hat d (List.mem_cons_of_mem _ hd)
  have hset : ∀ d ∈ jdkStatics_1, d.before _ s = true := (atoms_of jdkStatics_1 (show (jdkStatics_1.foldr Jvm.Cond.and restOwn_1).before _ s = true from hrest)).1
  have hEL : EW s _ consts_1 := (EW.cons (hw _ (List.mem_of_getElem? (i := 83) rfl)) (by decide) EW.nil)
  obtain ⟨zc, vzc⟩ := is_v (Cond.before_iff.mp (hset _ (List.mem_of_getElem? (i := 1) rfl)))
  have SC : Sta s s.heap ST "COMPACT_STRINGS" "Z" (.int zc) := Sta.start vzc (Or.inl (hset _ (List.mem_of_getElem? (i := 0) rfl)))
  have hz : ¬ zc = 0 := ne_int vzc (hset _ (List.mem_of_getElem? (i := 2) rfl))
  have G : Gl s #[.int i0, .int i1, .int i2, .int i3] zc := ⟨hw, hEL, SC, hz⟩
  have hCH : CHv s consts_1 s.vm s.heap := CHv.start hEL (fun q hq => hcalls.1 q hq) (hset _ (List.mem_of_getElem? (i := 2) rfl)) (hw _ (List.mem_of_getElem? (i := 23) rfl)) (hw _ (List.mem_of_getElem? (i := 6) rfl))
  obtain ⟨n, o, h1, h2, h3, v, L, rfl, ⟨N, -, rfl⟩, -, hq⟩ := (rm_law (l := l) G s.heap i0 i1 i2 i3) tables_1 p e ha hc hk s m _ below hf ((Spec.applies_iff_loose hf).mp happ).1 ⟨rfl, State.Warmed39.refl s, rfl, hCH, Ext.rf _, all0, all0⟩ trivial
  refine ⟨n, _, h1, h2, h3, hpost _ _ _ _ _ _ ⟨Cond.after_iff.mpr rfl, Cond.after_iff.mpr (eq_i res_at (Term.int_eval (1)) rfl), trivial⟩ ⟨hq.1, hq.2.1, hq.2.2.1, hq.2.2.2.sift fun y hy => Or.inr (N y hy)⟩⟩
end Ow
theorem main_1_1 : Claimed_1_1 := Ow.comes_1 fun _ _ _ _ _ _ h hF => ⟨h.1, hF⟩
theorem main_1_2 : Claimed_1_2 := Ow.comes_1 fun _ _ _ _ _ _ h hF => ⟨h.2.1, hF⟩
end Jvm.Pilot.@@N@@
namespace Jvm.Pilot.@@N@@
open Jvm Jvm.ClassFile Sem Op Lib Jvm.Free Jvm.Stand Jvm.Pilot.@@N@@.Jvm.D
/-! MADE BY PROGRAM (witnessworld.py) out of the Statement's table words and the real class files: 21 classes; the members and pool entries that the words name. The judged class is class 1, her method 3. -/
namespace start1
open Jvm.ClassFile
def u (s : String) : CpInfo := .utf8 (stringToUtf16 s)
/-- a pool by its gaps: so many unusable entries, then the entry; so many at the end -/
def gap : Nat → List CpInfo → List CpInfo
  | 0, r => r
  | n + 1, r => .unusable :: gap n r
def poolList (es : List (Nat × CpInfo)) (last : Nat) : List CpInfo := es.foldr (fun e r => gap e.1 (e.2 :: r)) (gap last [])
def pool (es : List (Nat × CpInfo)) (last : Nat) : Array CpInfo := ⟨poolList es last⟩
def fileOf (pool : Array CpInfo) (this : Nat) (attrs : Array Attribute := #[]) (ms : Array MethodInfo := #[]) (fl : Nat := 33) (sup : Nat := 0) (ifs : Array Nat := #[]) (fds : Array FieldInfo := #[]) : ClassFile where
  minorVersion := 0
  majorVersion := 65
  constantPool := pool
  accessFlags := fl
  thisClass := this
  superClass := sup
  interfaces := ifs
  fields := fds
  methods := ms
  attributes := attrs
def plain (name : String) (sup : Option ClassId) : Class where
  name := name
  kind := .ordinary
  loader := none
  accessFlags := 33
  super := sup
  interfaces := #[]
  cf := none
  fields := #[]
  methods := #[]
  instanceTypes := #[]
  staticTypes := #[]
  resolved := #[]
  callSites := []
  init := .initialized
  statics := none
  mirror := none

def pool0 : Array CpInfo := pool [(5, u "<init>"), (0, u "()V"), (1, .class_ 10), (1, u "java/lang/Object")] 113

def k0c0 : Code := { maxStack := 0, maxLocals := 1, code := object_method_1_code, exceptionTable := #[], attributes := #[] }
def k0m0 : Method := { name := "<init>", desc := "()V", sig := { parameters := [], returnType := none }, accessFlags := 1, code := some k0c0 }
/-- java/lang/Object -/
def k0 : Class := { plain "java/lang/Object" none with
  accessFlags := 33
  interfaces := #[]
  cf := some (fileOf pool0 8 #[] #[{ accessFlags := 1, nameIndex := 5, descriptorIndex := 6, attributes := #[] }] 33 0 #[] #[])
  fields := #[]
  methods := #[k0m0]
  instanceTypes := #[]
  staticTypes := #[]
  resolved := Array.replicate 124 none
  statics := none }

def pool1 : Array CpInfo := pool [(2, .class_ 4), (1, u "java/lang/Object"), (0, u "<init>"), (0, u "()V"), (0, .methodref 8 9), (0, .class_ 10), (0, .nameAndType 11 12), (0, u "com/example/benchwire/benchwire/protocol/hl7/MllpCanCarryPinLaw"), (0, u "draw"), (0, u "(I)C"), (0, .class_ 14), (0, u "java/lang/String"), (0, .methodref 13 16), (0, .nameAndType 5 17), (0, u "([C)V"), (0, .methodref 8 19), (0, .nameAndType 20 21), (0, u "free"), (0, u "(C)Z"), (0, .methodref 23 24), (0, .class_ 25), (0, .nameAndType 26 27), (0, u "com/example/benchwire/benchwire/protocol/hl7/Mllp"), (0, u "canCarry"), (0, u "(Ljava/lang/String;)Z"), (3, u "law"), (0, u "(IIII)Z")] 4

def k1m0 : Method := { name := "<init>", desc := "()V", sig := { parameters := [], returnType := none }, accessFlags := 1, code := none }
def k1c1 : Code := { maxStack := 2, maxLocals := 2, code := method_2_code, exceptionTable := #[], attributes := #[] }
def k1m1 : Method := { name := "draw", desc := "(I)C", sig := { parameters := [.int], returnType := some .char }, accessFlags := 10, code := some k1c1 }
def k1c2 : Code := { maxStack := 2, maxLocals := 1, code := method_3_code, exceptionTable := #[], attributes := #[] }
def k1m2 : Method := { name := "free", desc := "(C)Z", sig := { parameters := [.char], returnType := some .boolean }, accessFlags := 10, code := some k1c2 }
def k1c3 : Code := { maxStack := 3, maxLocals := 11, code := code, exceptionTable := #[], attributes := #[] }
def k1m3 : Method := { name := "law", desc := "(IIII)Z", sig := { parameters := [.int, .int, .int, .int], returnType := some .boolean }, accessFlags := 9, code := some k1c3 }
/-- com/example/benchwire/benchwire/protocol/hl7/MllpCanCarryPinLaw -/
def k1 : Class := { plain "com/example/benchwire/benchwire/protocol/hl7/MllpCanCarryPinLaw" (some 0) with
  accessFlags := 49
  interfaces := #[]
  cf := some (fileOf pool1 8 #[] #[{ accessFlags := 1, nameIndex := 5, descriptorIndex := 6, attributes := #[] }, { accessFlags := 10, nameIndex := 11, descriptorIndex := 12, attributes := #[] }, { accessFlags := 10, nameIndex := 20, descriptorIndex := 21, attributes := #[] }, { accessFlags := 9, nameIndex := 31, descriptorIndex := 32, attributes := #[] }] 49 2 #[] #[])
  fields := #[]
  methods := #[k1m0, k1m1, k1m2, k1m3]
  instanceTypes := #[]
  staticTypes := #[]
  resolved := Array.replicate 37 none
  statics := none }

def pool2 : Array CpInfo := pool [(1, .class_ 2), (0, u "java/io/Serializable"), (0, .class_ 4), (0, u "java/lang/Object")] 2

/-- java/io/Serializable -/
def k2 : Class := { plain "java/io/Serializable" (some 0) with
  accessFlags := 1537
  interfaces := #[]
  cf := some (fileOf pool2 1 #[] #[] 1537 3 #[] #[])
  fields := #[]
  methods := #[]
  instanceTypes := #[]
  staticTypes := #[]
  resolved := Array.replicate 7 none
  statics := none }

def pool3 : Array CpInfo := pool [(1, .class_ 2), (0, u "java/lang/Comparable"), (0, .class_ 4), (0, u "java/lang/Object")] 7

/-- java/lang/Comparable -/
def k3 : Class := { plain "java/lang/Comparable" (some 0) with
  accessFlags := 1537
  interfaces := #[]
  cf := some (fileOf pool3 1 #[] #[] 1537 3 #[] #[])
  fields := #[]
  methods := #[]
  instanceTypes := #[]
  staticTypes := #[]
  resolved := Array.replicate 12 none
  statics := none }

def pool4 : Array CpInfo := pool [(2, .class_ 4), (1, u "java/lang/CharSequence"), (42, .class_ 48), (0, u "java/lang/CharSequence$1CodePointIterator"), (10, .class_ 60), (0, u "java/lang/CharSequence$1CharIterator"), (5, .class_ 67), (0, u "java/lang/Object")] 63

/-- java/lang/CharSequence -/
def k4 : Class := { plain "java/lang/CharSequence" (some 0) with
  accessFlags := 1537
  interfaces := #[]
  cf := some (fileOf pool4 2 #[.nestMembers #[47, 59]] #[] 1537 66 #[] #[])
  fields := #[]
  methods := #[]
  instanceTypes := #[]
  staticTypes := #[]
  resolved := Array.replicate 131 none
  statics := none }

def pool5 : Array CpInfo := pool [(1, .class_ 2), (0, u "java/lang/constant/Constable"), (0, .class_ 4), (0, u "java/lang/Object")] 6

/-- java/lang/constant/Constable -/
def k5 : Class := { plain "java/lang/constant/Constable" (some 0) with
  accessFlags := 1537
  interfaces := #[]
  cf := some (fileOf pool5 1 #[] #[] 1537 3 #[] #[])
  fields := #[]
  methods := #[]
  instanceTypes := #[]
  staticTypes := #[]
  resolved := Array.replicate 11 none
  statics := none }

def pool6 : Array CpInfo := pool [(1, .class_ 2), (0, u "java/lang/constant/ConstantDesc"), (0, .class_ 4), (0, u "java/lang/Object")] 32

/-- java/lang/constant/ConstantDesc -/
def k6 : Class := { plain "java/lang/constant/ConstantDesc" (some 0) with
  accessFlags := 1537
  interfaces := #[]
  cf := some (fileOf pool6 1 #[] #[] 1537 3 #[] #[])
  fields := #[]
  methods := #[]
  instanceTypes := #[]
  staticTypes := #[]
  resolved := Array.replicate 37 none
  statics := none }

def pool7 : Array CpInfo := pool [(1, .methodref 2 3), (0, .class_ 4), (0, .nameAndType 5 6), (0, u "java/lang/Object"), (0, u "<init>"), (0, u "()V"), (0, .string 8), (0, u ""), (0, .fieldref 10 11), (0, .class_ 12), (0, .nameAndType 13 14), (0, u "java/lang/String"), (0, u "value"), (0, u "[B"), (0, .fieldref 10 16), (0, .nameAndType 17 18), (0, u "coder"), (0, u "B"), (2, u "hash"), (0, u "I"), (2, u "hashIsZero"), (0, u "Z"), (0, .methodref 10 28), (0, .nameAndType 5 29), (0, u "([CIILjava/lang/Void;)V"), (8, .fieldref 10 39), (0, .nameAndType 40 26), (0, u "COMPACT_STRINGS"), (1, .class_ 44), (1, u "java/lang/StringUTF16"), (0, u "compress"), (1, .methodref 42 48), (0, .nameAndType 49 50), (0, u "coderFromArrayLen"), (0, u "([BI)B"), (56, .class_ 109), (1, u "java/lang/StringLatin1"), (32, u "()Z"), (34, .methodref 42 178), (0, .nameAndType 45 179), (0, u "([CII)[B"), (154, u "()I"), (0, .methodref 10 336), (0, .nameAndType 17 337), (0, u "()B"), (154, .methodref 10 493), (0, .nameAndType 494 142), (0, u "isLatin1"), (10, .methodref 10 506), (0, .nameAndType 507 334), (0, u "length"), (67, .class_ 576), (0, u "java/lang/CharSequence"), (22, u "CASE_INSENSITIVE_ORDER"), (0, u "Ljava/util/Comparator;"), (32, .methodref 10 634), (0, .nameAndType 635 636), (0, u "indexOf"), (0, u "(II)I"), (0, .methodref 107 638), (0, .nameAndType 635 639), (0, u "([BIII)I"), (125, u "(I)I"), (244, u "([C)V"), (90, u "serialPersistentFields"), (0, u "[Ljava/io/ObjectStreamField;"), (0, .class_ 1104), (0, u "java/lang/String$CaseInsensitiveComparator"), (1, .class_ 1107), (0, u "java/io/Serializable"), (0, .class_ 1109), (0, u "java/lang/Comparable"), (0, .class_ 1111), (0, u "java/lang/constant/Constable"), (0, .class_ 1113), (0, u "java/lang/constant/ConstantDesc"), (2, u "serialVersionUID"), (0, u "J"), (3, u "REPL"), (0, u "C"), (2, u "LATIN1"), (1, u "UTF16")] 323

def k7m0 : Method := { name := "<init>", desc := "()V", sig := { parameters := [], returnType := none }, accessFlags := 1, code := none }
def k7c1 : Code := { maxStack := 5, maxLocals := 2, code := jdk_42_method_3_code, exceptionTable := #[], attributes := #[] }
def k7m1 : Method := { name := "<init>", desc := "([C)V", sig := { parameters := [(.array .char)], returnType := none }, accessFlags := 1, code := some k7c1 }
def k7c2 : Code := { maxStack := 2, maxLocals := 1, code := jdk_42_method_54_code, exceptionTable := #[], attributes := #[] }
def k7m2 : Method := { name := "length", desc := "()I", sig := { parameters := [], returnType := some .int }, accessFlags := 1, code := some k7c2 }
def k7c3 : Code := { maxStack := 3, maxLocals := 2, code := jdk_42_method_79_code, exceptionTable := #[], attributes := #[] }
def k7m3 : Method := { name := "indexOf", desc := "(I)I", sig := { parameters := [.int], returnType := some .int }, accessFlags := 1, code := some k7c3 }
def k7c4 : Code := { maxStack := 4, maxLocals := 3, code := jdk_42_method_80_code, exceptionTable := #[], attributes := #[] }
def k7m4 : Method := { name := "indexOf", desc := "(II)I", sig := { parameters := [.int, .int], returnType := some .int }, accessFlags := 1, code := some k7c4 }
def k7c5 : Code := { maxStack := 4, maxLocals := 6, code := jdk_42_method_149_code, exceptionTable := #[], attributes := #[] }
def k7m5 : Method := { name := "<init>", desc := "([CIILjava/lang/Void;)V", sig := { parameters := [(.array .char), .int, .int, (.object "java/lang/Void")], returnType := none }, accessFlags := 2, code := some k7c5 }
def k7c6 : Code := { maxStack := 1, maxLocals := 1, code := jdk_42_method_152_code, exceptionTable := #[], attributes := #[] }
def k7m6 : Method := { name := "coder", desc := "()B", sig := { parameters := [], returnType := some .byte }, accessFlags := 0, code := some k7c6 }
def k7c7 : Code := { maxStack := 1, maxLocals := 1, code := jdk_42_method_154_code, exceptionTable := #[], attributes := #[] }
def k7m7 : Method := { name := "isLatin1", desc := "()Z", sig := { parameters := [], returnType := some .boolean }, accessFlags := 0, code := some k7c7 }
/-- java/lang/String -/
def k7 : Class := { plain "java/lang/String" (some 0) with
  accessFlags := 49
  interfaces := #[2, 3, 4, 5, 6]
  cf := some (fileOf pool7 10 #[.nestMembers #[1103]] #[{ accessFlags := 1, nameIndex := 5, descriptorIndex := 6, attributes := #[] }, { accessFlags := 1, nameIndex := 5, descriptorIndex := 1010, attributes := #[] }, { accessFlags := 1, nameIndex := 507, descriptorIndex := 334, attributes := #[] }, { accessFlags := 1, nameIndex := 635, descriptorIndex := 765, attributes := #[] }, { accessFlags := 1, nameIndex := 635, descriptorIndex := 636, attributes := #[] }, { accessFlags := 2, nameIndex := 5, descriptorIndex := 29, attributes := #[] }, { accessFlags := 0, nameIndex := 17, descriptorIndex := 337, attributes := #[] }, { accessFlags := 0, nameIndex := 494, descriptorIndex := 142, attributes := #[] }] 49 2 #[1106, 1108, 575, 1110, 1112] #[{ accessFlags := 18, nameIndex := 13, descriptorIndex := 14, attributes := #[] }, { accessFlags := 18, nameIndex := 17, descriptorIndex := 18, attributes := #[] }, { accessFlags := 2, nameIndex := 21, descriptorIndex := 22, attributes := #[] }, { accessFlags := 2, nameIndex := 25, descriptorIndex := 26, attributes := #[] }, { accessFlags := 26, nameIndex := 1116, descriptorIndex := 1117, attributes := #[] }, { accessFlags := 24, nameIndex := 40, descriptorIndex := 26, attributes := #[] }, { accessFlags := 26, nameIndex := 1101, descriptorIndex := 1102, attributes := #[] }, { accessFlags := 26, nameIndex := 1121, descriptorIndex := 1122, attributes := #[] }, { accessFlags := 25, nameIndex := 599, descriptorIndex := 600, attributes := #[] }, { accessFlags := 24, nameIndex := 1125, descriptorIndex := 18, attributes := #[] }, { accessFlags := 24, nameIndex := 1127, descriptorIndex := 18, attributes := #[] }])
  fields := #[{ name := "value", type := (.array .byte), accessFlags := 18, slot := 0, constantValue := 0 }, { name := "coder", type := .byte, accessFlags := 18, slot := 1, constantValue := 0 }, { name := "hash", type := .int, accessFlags := 2, slot := 2, constantValue := 0 }, { name := "hashIsZero", type := .boolean, accessFlags := 2, slot := 3, constantValue := 0 }, { name := "serialVersionUID", type := .long, accessFlags := 26, slot := 0, constantValue := 0 }, { name := "COMPACT_STRINGS", type := .boolean, accessFlags := 24, slot := 1, constantValue := 0 }, { name := "serialPersistentFields", type := (.array (.object "java/io/ObjectStreamField")), accessFlags := 26, slot := 2, constantValue := 0 }, { name := "REPL", type := .char, accessFlags := 26, slot := 3, constantValue := 0 }, { name := "CASE_INSENSITIVE_ORDER", type := (.object "java/util/Comparator"), accessFlags := 25, slot := 4, constantValue := 0 }, { name := "LATIN1", type := .byte, accessFlags := 24, slot := 5, constantValue := 0 }, { name := "UTF16", type := .byte, accessFlags := 24, slot := 6, constantValue := 0 }]
  methods := #[k7m0, k7m1, k7m2, k7m3, k7m4, k7m5, k7m6, k7m7]
  instanceTypes := #[(.array .byte), .byte, .int, .boolean]
  staticTypes := #[.long, .boolean, (.array (.object "java/io/ObjectStreamField")), .char, (.object "java/util/Comparator"), .byte, .byte]
  resolved := Array.replicate 1451 none
  statics := some 0 }

def pool8 : Array CpInfo := pool [(6, .class_ 8), (1, u "java/lang/Object"), (0, u "<init>"), (0, u "()V"), (1, .class_ 14), (1, u "java/lang/StringUTF16"), (31, u "$assertionsDisabled"), (0, u "Z"), (13, u "HI_BYTE_SHIFT"), (0, u "I"), (2, u "LO_BYTE_SHIFT"), (49, .methodref 12 116), (0, .nameAndType 117 118), (0, u "compress"), (0, u "([CI[BII)I"), (3, u "([CII)[B"), (138, u "coderFromArrayLen"), (0, u "([BI)B"), (106, .class_ 371), (1, u "java/lang/StringUTF16$LinesSpliterator"), (58, u "MAX_LENGTH"), (196, .class_ 628), (0, u "java/lang/StringUTF16$CodePointsSpliterator"), (0, .class_ 630), (0, u "java/lang/StringUTF16$CharsSpliterator")] 4

def k8m0 : Method := { name := "<init>", desc := "()V", sig := { parameters := [], returnType := none }, accessFlags := 0, code := none }
def k8c1 : Code := { maxStack := 2, maxLocals := 2, code := jdk_52_method_15_code, exceptionTable := #[], attributes := #[] }
def k8m1 : Method := { name := "coderFromArrayLen", desc := "([BI)B", sig := { parameters := [(.array .byte), .int], returnType := some .byte }, accessFlags := 8, code := some k8c1 }
def k8c2 : Code := { maxStack := 5, maxLocals := 6, code := jdk_52_method_16_code, exceptionTable := #[], attributes := #[] }
def k8m2 : Method := { name := "compress", desc := "([CII)[B", sig := { parameters := [(.array .char), .int, .int], returnType := some (.array .byte) }, accessFlags := 9, code := some k8c2 }
def k8c3 : Code := { maxStack := 3, maxLocals := 7, code := jdk_52_method_21_code, exceptionTable := #[], attributes := #[] }
def k8m3 : Method := { name := "compress", desc := "([CI[BII)I", sig := { parameters := [(.array .char), .int, (.array .byte), .int, .int], returnType := some .int }, accessFlags := 9, code := some k8c3 }
/-- java/lang/StringUTF16 -/
def k8 : Class := { plain "java/lang/StringUTF16" (some 0) with
  accessFlags := 48
  interfaces := #[]
  cf := some (fileOf pool8 12 #[.nestMembers #[627, 629, 369]] #[{ accessFlags := 0, nameIndex := 9, descriptorIndex := 10, attributes := #[] }, { accessFlags := 8, nameIndex := 261, descriptorIndex := 262, attributes := #[] }, { accessFlags := 9, nameIndex := 117, descriptorIndex := 122, attributes := #[] }, { accessFlags := 9, nameIndex := 117, descriptorIndex := 118, attributes := #[] }] 48 6 #[] #[{ accessFlags := 26, nameIndex := 61, descriptorIndex := 62, attributes := #[] }, { accessFlags := 26, nameIndex := 65, descriptorIndex := 62, attributes := #[] }, { accessFlags := 24, nameIndex := 430, descriptorIndex := 62, attributes := #[] }, { accessFlags := 4120, nameIndex := 46, descriptorIndex := 47, attributes := #[] }])
  fields := #[{ name := "HI_BYTE_SHIFT", type := .int, accessFlags := 26, slot := 0, constantValue := 0 }, { name := "LO_BYTE_SHIFT", type := .int, accessFlags := 26, slot := 1, constantValue := 0 }, { name := "MAX_LENGTH", type := .int, accessFlags := 24, slot := 2, constantValue := 0 }, { name := "$assertionsDisabled", type := .boolean, accessFlags := 4120, slot := 3, constantValue := 0 }]
  methods := #[k8m0, k8m1, k8m2, k8m3]
  instanceTypes := #[]
  staticTypes := #[.int, .int, .int, .boolean]
  resolved := Array.replicate 635 none
  statics := none }

def pool9 : Array CpInfo := pool [(1, .class_ 2), (0, u "com/example/benchwire/benchwire/protocol/hl7/Mllp"), (1, .class_ 6), (1, u "java/lang/Object"), (0, u "<init>"), (0, u "()V"), (0, .methodref 10 11), (0, .class_ 12), (0, .nameAndType 13 14), (0, u "java/lang/String"), (0, u "indexOf"), (0, u "(I)I"), (41, u "START_BLOCK"), (0, u "I"), (2, u "END_BLOCK"), (1, u "CARRIAGE_RETURN"), (1, u "FRAMING_LENGTH"), (1, u "FRAMING"), (0, u "Ljava/lang/String;"), (4, u "canCarry"), (0, u "(Ljava/lang/String;)Z"), (11, .class_ 86), (0, u "com/example/benchwire/benchwire/protocol/hl7/Mllp$TooLongException"), (0, .class_ 88), (0, u "com/example/benchwire/benchwire/protocol/hl7/Mllp$Reader")] 3

def k9m0 : Method := { name := "<init>", desc := "()V", sig := { parameters := [], returnType := none }, accessFlags := 2, code := none }
def k9c1 : Code := { maxStack := 2, maxLocals := 1, code := prog_109_method_2_code, exceptionTable := #[], attributes := #[] }
def k9m1 : Method := { name := "canCarry", desc := "(Ljava/lang/String;)Z", sig := { parameters := [(.object "java/lang/String")], returnType := some .boolean }, accessFlags := 9, code := some k9c1 }
/-- com/example/benchwire/benchwire/protocol/hl7/Mllp -/
def k9 : Class := { plain "com/example/benchwire/benchwire/protocol/hl7/Mllp" (some 0) with
  accessFlags := 49
  interfaces := #[]
  cf := some (fileOf pool9 1 #[.nestMembers #[85, 87]] #[{ accessFlags := 2, nameIndex := 7, descriptorIndex := 8, attributes := #[] }, { accessFlags := 9, nameIndex := 72, descriptorIndex := 73, attributes := #[] }] 49 4 #[] #[{ accessFlags := 26, nameIndex := 56, descriptorIndex := 57, attributes := #[] }, { accessFlags := 26, nameIndex := 60, descriptorIndex := 57, attributes := #[] }, { accessFlags := 26, nameIndex := 62, descriptorIndex := 57, attributes := #[] }, { accessFlags := 26, nameIndex := 64, descriptorIndex := 57, attributes := #[] }, { accessFlags := 24, nameIndex := 66, descriptorIndex := 67, attributes := #[] }])
  fields := #[{ name := "START_BLOCK", type := .int, accessFlags := 26, slot := 0, constantValue := 0 }, { name := "END_BLOCK", type := .int, accessFlags := 26, slot := 1, constantValue := 0 }, { name := "CARRIAGE_RETURN", type := .int, accessFlags := 26, slot := 2, constantValue := 0 }, { name := "FRAMING_LENGTH", type := .int, accessFlags := 26, slot := 3, constantValue := 0 }, { name := "FRAMING", type := (.object "java/lang/String"), accessFlags := 24, slot := 4, constantValue := 0 }]
  methods := #[k9m0, k9m1]
  instanceTypes := #[]
  staticTypes := #[.int, .int, .int, .int, (.object "java/lang/String")]
  resolved := Array.replicate 92 none
  statics := none }

def pool10 : Array CpInfo := pool [(4, .class_ 6), (1, u "java/lang/Object"), (0, u "<init>"), (0, u "()V"), (5, .class_ 16), (1, u "java/lang/StringLatin1"), (21, .methodref 39 40), (0, .class_ 41), (0, .nameAndType 42 43), (0, u "java/lang/Math"), (0, u "min"), (0, u "(II)I"), (44, .methodref 14 89), (0, .nameAndType 90 91), (0, u "canEncode"), (0, u "(I)Z"), (0, .methodref 39 93), (0, .nameAndType 94 43), (0, u "max"), (0, .methodref 14 96), (0, .nameAndType 97 98), (0, u "indexOfChar"), (0, u "([BIII)I"), (2, u "indexOf"), (19, u "$assertionsDisabled"), (0, u "Z"), (98, .class_ 223), (1, u "java/lang/StringLatin1$LinesSpliterator"), (166, .class_ 391), (0, u "java/lang/StringLatin1$CharsSpliterator")] 3

def k10m0 : Method := { name := "<init>", desc := "()V", sig := { parameters := [], returnType := none }, accessFlags := 0, code := none }
def k10c1 : Code := { maxStack := 2, maxLocals := 1, code := jdk_43_method_4_code, exceptionTable := #[], attributes := #[] }
def k10m1 : Method := { name := "canEncode", desc := "(I)Z", sig := { parameters := [.int], returnType := some .boolean }, accessFlags := 9, code := some k10c1 }
def k10c2 : Code := { maxStack := 4, maxLocals := 4, code := jdk_43_method_22_code, exceptionTable := #[], attributes := #[] }
def k10m2 : Method := { name := "indexOf", desc := "([BIII)I", sig := { parameters := [(.array .byte), .int, .int, .int], returnType := some .int }, accessFlags := 9, code := some k10c2 }
def k10c3 : Code := { maxStack := 2, maxLocals := 6, code := jdk_43_method_23_code, exceptionTable := #[], attributes := #[] }
def k10m3 : Method := { name := "indexOfChar", desc := "([BIII)I", sig := { parameters := [(.array .byte), .int, .int, .int], returnType := some .int }, accessFlags := 10, code := some k10c3 }
/-- java/lang/StringLatin1 -/
def k10 : Class := { plain "java/lang/StringLatin1" (some 0) with
  accessFlags := 48
  interfaces := #[]
  cf := some (fileOf pool10 14 #[.nestMembers #[390, 221]] #[{ accessFlags := 0, nameIndex := 7, descriptorIndex := 8, attributes := #[] }, { accessFlags := 9, nameIndex := 90, descriptorIndex := 91, attributes := #[] }, { accessFlags := 9, nameIndex := 101, descriptorIndex := 98, attributes := #[] }, { accessFlags := 10, nameIndex := 97, descriptorIndex := 98, attributes := #[] }] 48 4 #[] #[{ accessFlags := 4120, nameIndex := 121, descriptorIndex := 122, attributes := #[] }])
  fields := #[{ name := "$assertionsDisabled", type := .boolean, accessFlags := 4120, slot := 0, constantValue := 0 }]
  methods := #[k10m0, k10m1, k10m2, k10m3]
  instanceTypes := #[]
  staticTypes := #[.boolean]
  resolved := Array.replicate 395 none
  statics := none }

def pool11 : Array CpInfo := pool [(1, .class_ 2), (0, u "java/lang/Math"), (1, .class_ 6), (1, u "java/lang/Object"), (0, u "<init>"), (0, u "()V"), (89, .class_ 100), (1, u "java/lang/Math$RandomNumberGeneratorHolder"), (71, u "negativeZeroFloatBits"), (0, u "J"), (2, u "negativeZeroDoubleBits"), (21, u "max"), (2, u "min"), (43, u "$assertionsDisabled"), (0, u "Z"), (88, u "(II)I"), (2, u "twoToTheDoubleScaleDown"), (0, u "D"), (4, u "twoToTheDoubleScaleUp"), (9, u "E"), (3, u "PI"), (2, u "TAU"), (2, u "DEGREES_TO_RADIANS"), (0, u "RADIANS_TO_DEGREES")] 94

def k11m0 : Method := { name := "<init>", desc := "()V", sig := { parameters := [], returnType := none }, accessFlags := 2, code := none }
def k11c1 : Code := { maxStack := 2, maxLocals := 2, code := jdk_29_method_65_code, exceptionTable := #[], attributes := #[] }
def k11m1 : Method := { name := "max", desc := "(II)I", sig := { parameters := [.int, .int], returnType := some .int }, accessFlags := 9, code := some k11c1 }
def k11c2 : Code := { maxStack := 2, maxLocals := 2, code := jdk_29_method_69_code, exceptionTable := #[], attributes := #[] }
def k11m2 : Method := { name := "min", desc := "(II)I", sig := { parameters := [.int, .int], returnType := some .int }, accessFlags := 9, code := some k11c2 }
/-- java/lang/Math -/
def k11 : Class := { plain "java/lang/Math" (some 0) with
  accessFlags := 49
  interfaces := #[]
  cf := some (fileOf pool11 1 #[.nestMembers #[98]] #[{ accessFlags := 2, nameIndex := 7, descriptorIndex := 8, attributes := #[] }, { accessFlags := 9, nameIndex := 198, descriptorIndex := 335, attributes := #[] }, { accessFlags := 9, nameIndex := 201, descriptorIndex := 335, attributes := #[] }] 49 4 #[] #[{ accessFlags := 25, nameIndex := 354, descriptorIndex := 339, attributes := #[] }, { accessFlags := 25, nameIndex := 358, descriptorIndex := 339, attributes := #[] }, { accessFlags := 25, nameIndex := 361, descriptorIndex := 339, attributes := #[] }, { accessFlags := 26, nameIndex := 364, descriptorIndex := 339, attributes := #[] }, { accessFlags := 26, nameIndex := 365, descriptorIndex := 339, attributes := #[] }, { accessFlags := 26, nameIndex := 172, descriptorIndex := 173, attributes := #[] }, { accessFlags := 26, nameIndex := 176, descriptorIndex := 173, attributes := #[] }, { accessFlags := 8, nameIndex := 344, descriptorIndex := 339, attributes := #[] }, { accessFlags := 8, nameIndex := 338, descriptorIndex := 339, attributes := #[] }, { accessFlags := 4120, nameIndex := 245, descriptorIndex := 246, attributes := #[] }])
  fields := #[{ name := "E", type := .double, accessFlags := 25, slot := 0, constantValue := 0 }, { name := "PI", type := .double, accessFlags := 25, slot := 1, constantValue := 0 }, { name := "TAU", type := .double, accessFlags := 25, slot := 2, constantValue := 0 }, { name := "DEGREES_TO_RADIANS", type := .double, accessFlags := 26, slot := 3, constantValue := 0 }, { name := "RADIANS_TO_DEGREES", type := .double, accessFlags := 26, slot := 4, constantValue := 0 }, { name := "negativeZeroFloatBits", type := .long, accessFlags := 26, slot := 5, constantValue := 0 }, { name := "negativeZeroDoubleBits", type := .long, accessFlags := 26, slot := 6, constantValue := 0 }, { name := "twoToTheDoubleScaleUp", type := .double, accessFlags := 8, slot := 7, constantValue := 0 }, { name := "twoToTheDoubleScaleDown", type := .double, accessFlags := 8, slot := 8, constantValue := 0 }, { name := "$assertionsDisabled", type := .boolean, accessFlags := 4120, slot := 9, constantValue := 0 }]
  methods := #[k11m0, k11m1, k11m2]
  instanceTypes := #[]
  staticTypes := #[.double, .double, .double, .double, .double, .long, .long, .double, .double, .boolean]
  resolved := Array.replicate 460 none
  statics := none }

def pool12 : Array CpInfo := pool [(2, .class_ 4), (1, u "java/lang/Object"), (0, u "<init>"), (0, u "()V"), (17, .class_ 26), (1, u "jdk/internal/util/Preconditions"), (28, .class_ 56), (0, u "jdk/internal/util/Preconditions$4"), (57, .class_ 115), (0, u "jdk/internal/util/Preconditions$1"), (7, u "SIOOBE_FORMATTER"), (0, u "Ljava/util/function/BiFunction;"), (0, .class_ 126), (0, u "jdk/internal/util/Preconditions$2"), (3, u "AIOOBE_FORMATTER"), (0, .class_ 132), (0, u "jdk/internal/util/Preconditions$3"), (3, u "IOOBE_FORMATTER")] 57

def k12m0 : Method := { name := "<init>", desc := "()V", sig := { parameters := [], returnType := none }, accessFlags := 1, code := none }
/-- jdk/internal/util/Preconditions -/
def k12 : Class := { plain "jdk/internal/util/Preconditions" (some 0) with
  accessFlags := 33
  interfaces := #[]
  cf := some (fileOf pool12 24 #[.nestMembers #[55, 131, 125, 114]] #[{ accessFlags := 1, nameIndex := 5, descriptorIndex := 6, attributes := #[] }] 33 2 #[] #[{ accessFlags := 25, nameIndex := 123, descriptorIndex := 124, attributes := #[] }, { accessFlags := 25, nameIndex := 130, descriptorIndex := 124, attributes := #[] }, { accessFlags := 25, nameIndex := 136, descriptorIndex := 124, attributes := #[] }])
  fields := #[{ name := "SIOOBE_FORMATTER", type := (.object "java/util/function/BiFunction"), accessFlags := 25, slot := 0, constantValue := 0 }, { name := "AIOOBE_FORMATTER", type := (.object "java/util/function/BiFunction"), accessFlags := 25, slot := 1, constantValue := 0 }, { name := "IOOBE_FORMATTER", type := (.object "java/util/function/BiFunction"), accessFlags := 25, slot := 2, constantValue := 0 }]
  methods := #[k12m0]
  instanceTypes := #[]
  staticTypes := #[(.object "java/util/function/BiFunction"), (.object "java/util/function/BiFunction"), (.object "java/util/function/BiFunction")]
  resolved := Array.replicate 194 none
  statics := some 1 }

def pool13 : Array CpInfo := pool [(9, u "<init>"), (6, .class_ 18), (1, u "java/lang/Object"), (0, u "()V"), (1, .class_ 23), (1, u "jdk/internal/util/ArraysSupport"), (0, u "LOG2_ARRAY_LONG_INDEX_SCALE"), (0, u "I"), (2, u "U"), (0, u "Ljdk/internal/misc/Unsafe;"), (8, u "BIG_ENDIAN"), (0, u "Z"), (8, u "LOG2_BYTE_BIT_SIZE"), (4, u "LOG2_ARRAY_INT_INDEX_SCALE"), (54, u "JLA"), (0, u "Ljdk/internal/access/JavaLangAccess;"), (11, u "LOG2_ARRAY_BOOLEAN_INDEX_SCALE"), (9, u "LOG2_ARRAY_BYTE_INDEX_SCALE"), (5, u "LOG2_ARRAY_CHAR_INDEX_SCALE"), (5, u "LOG2_ARRAY_SHORT_INDEX_SCALE"), (18, u "LOG2_ARRAY_FLOAT_INDEX_SCALE"), (24, u "LOG2_ARRAY_DOUBLE_INDEX_SCALE"), (89, u "T_BOOLEAN"), (2, u "T_CHAR"), (1, u "T_FLOAT"), (1, u "T_DOUBLE"), (1, u "T_BYTE"), (1, u "T_SHORT"), (1, u "T_INT"), (1, u "T_LONG"), (1, u "SOFT_MAX_ARRAY_LENGTH")] 83

def k13m0 : Method := { name := "<init>", desc := "()V", sig := { parameters := [], returnType := none }, accessFlags := 2, code := none }
/-- jdk/internal/util/ArraysSupport -/
def k13 : Class := { plain "jdk/internal/util/ArraysSupport" (some 0) with
  accessFlags := 33
  interfaces := #[]
  cf := some (fileOf pool13 21 #[] #[{ accessFlags := 2, nameIndex := 9, descriptorIndex := 19, attributes := #[] }] 33 16 #[] #[{ accessFlags := 24, nameIndex := 28, descriptorIndex := 29, attributes := #[] }, { accessFlags := 26, nameIndex := 38, descriptorIndex := 39, attributes := #[] }, { accessFlags := 25, nameIndex := 121, descriptorIndex := 25, attributes := #[] }, { accessFlags := 25, nameIndex := 131, descriptorIndex := 25, attributes := #[] }, { accessFlags := 25, nameIndex := 137, descriptorIndex := 25, attributes := #[] }, { accessFlags := 25, nameIndex := 143, descriptorIndex := 25, attributes := #[] }, { accessFlags := 25, nameIndex := 53, descriptorIndex := 25, attributes := #[] }, { accessFlags := 25, nameIndex := 24, descriptorIndex := 25, attributes := #[] }, { accessFlags := 25, nameIndex := 162, descriptorIndex := 25, attributes := #[] }, { accessFlags := 25, nameIndex := 187, descriptorIndex := 25, attributes := #[] }, { accessFlags := 26, nameIndex := 48, descriptorIndex := 25, attributes := #[] }, { accessFlags := 25, nameIndex := 277, descriptorIndex := 25, attributes := #[] }, { accessFlags := 25, nameIndex := 280, descriptorIndex := 25, attributes := #[] }, { accessFlags := 25, nameIndex := 282, descriptorIndex := 25, attributes := #[] }, { accessFlags := 25, nameIndex := 284, descriptorIndex := 25, attributes := #[] }, { accessFlags := 25, nameIndex := 286, descriptorIndex := 25, attributes := #[] }, { accessFlags := 25, nameIndex := 288, descriptorIndex := 25, attributes := #[] }, { accessFlags := 25, nameIndex := 290, descriptorIndex := 25, attributes := #[] }, { accessFlags := 25, nameIndex := 292, descriptorIndex := 25, attributes := #[] }, { accessFlags := 26, nameIndex := 108, descriptorIndex := 109, attributes := #[] }, { accessFlags := 25, nameIndex := 294, descriptorIndex := 25, attributes := #[] }])
  fields := #[{ name := "U", type := (.object "jdk/internal/misc/Unsafe"), accessFlags := 24, slot := 0, constantValue := 0 }, { name := "BIG_ENDIAN", type := .boolean, accessFlags := 26, slot := 1, constantValue := 0 }, { name := "LOG2_ARRAY_BOOLEAN_INDEX_SCALE", type := .int, accessFlags := 25, slot := 2, constantValue := 0 }, { name := "LOG2_ARRAY_BYTE_INDEX_SCALE", type := .int, accessFlags := 25, slot := 3, constantValue := 0 }, { name := "LOG2_ARRAY_CHAR_INDEX_SCALE", type := .int, accessFlags := 25, slot := 4, constantValue := 0 }, { name := "LOG2_ARRAY_SHORT_INDEX_SCALE", type := .int, accessFlags := 25, slot := 5, constantValue := 0 }, { name := "LOG2_ARRAY_INT_INDEX_SCALE", type := .int, accessFlags := 25, slot := 6, constantValue := 0 }, { name := "LOG2_ARRAY_LONG_INDEX_SCALE", type := .int, accessFlags := 25, slot := 7, constantValue := 0 }, { name := "LOG2_ARRAY_FLOAT_INDEX_SCALE", type := .int, accessFlags := 25, slot := 8, constantValue := 0 }, { name := "LOG2_ARRAY_DOUBLE_INDEX_SCALE", type := .int, accessFlags := 25, slot := 9, constantValue := 0 }, { name := "LOG2_BYTE_BIT_SIZE", type := .int, accessFlags := 26, slot := 10, constantValue := 0 }, { name := "T_BOOLEAN", type := .int, accessFlags := 25, slot := 11, constantValue := 0 }, { name := "T_CHAR", type := .int, accessFlags := 25, slot := 12, constantValue := 0 }, { name := "T_FLOAT", type := .int, accessFlags := 25, slot := 13, constantValue := 0 }, { name := "T_DOUBLE", type := .int, accessFlags := 25, slot := 14, constantValue := 0 }, { name := "T_BYTE", type := .int, accessFlags := 25, slot := 15, constantValue := 0 }, { name := "T_SHORT", type := .int, accessFlags := 25, slot := 16, constantValue := 0 }, { name := "T_INT", type := .int, accessFlags := 25, slot := 17, constantValue := 0 }, { name := "T_LONG", type := .int, accessFlags := 25, slot := 18, constantValue := 0 }, { name := "JLA", type := (.object "jdk/internal/access/JavaLangAccess"), accessFlags := 26, slot := 19, constantValue := 0 }, { name := "SOFT_MAX_ARRAY_LENGTH", type := .int, accessFlags := 25, slot := 20, constantValue := 0 }]
  methods := #[k13m0]
  instanceTypes := #[]
  staticTypes := #[(.object "jdk/internal/misc/Unsafe"), .boolean, .int, .int, .int, .int, .int, .int, .int, .int, .int, .int, .int, .int, .int, .int, .int, .int, .int, (.object "jdk/internal/access/JavaLangAccess"), .int]
  resolved := Array.replicate 378 none
  statics := none }

def pool14 : Array CpInfo := pool [(1, u "java/lang/Cloneable"), (0, .class_ 1), (0, u "java/lang/Object"), (0, .class_ 3)] 3

/-- java/lang/Cloneable -/
def k14 : Class := { plain "java/lang/Cloneable" (some 0) with
  accessFlags := 1537
  interfaces := #[]
  cf := some (fileOf pool14 2 #[] #[] 1537 4 #[] #[])
  fields := #[]
  methods := #[]
  instanceTypes := #[]
  staticTypes := #[]
  resolved := Array.replicate 8 none
  statics := none }

/-- the primitive byte -/
def k15 : Class := { plain "byte" none with kind := .primitive 'B', accessFlags := 0x411 }
/-- [B -/
def k16 : Class := { plain "[B" (some 0) with kind := .array 15 .byte, interfaces := #[14, 2], accessFlags := 1041 }

/-- the primitive char -/
def k17 : Class := { plain "char" none with kind := .primitive 'C', accessFlags := 0x411 }
/-- [C -/
def k18 : Class := { plain "[C" (some 0) with kind := .array 17 .char, interfaces := #[14, 2], accessFlags := 1041 }

/-- the primitive int -/
def k19 : Class := { plain "int" none with kind := .primitive 'I', accessFlags := 0x411 }
/-- [I -/
def k20 : Class := { plain "[I" (some 0) with kind := .array 19 .int, interfaces := #[14, 2], accessFlags := 1041 }

def heap : Heap := #[{ cls := 7, slots := #[.long 0, .int 1, .null, .int 0, .null, .int 0, .int 0], vm := .statics 7 },
  { cls := 12, slots := #[.null, .null, .null], vm := .statics 12 }]
def classes : Array Class := #[k0, k1, k2, k3, k4, k5, k6, k7, k8, k9, k10, k11, k12, k13, k14, k15, k16, k17, k18, k19, k20]
def interned : List (Array UInt16 × Addr) := []
def slotsUsed : Nat := 10
def theMethod : MethodId := ⟨1, 3⟩
def args0 : Array Value := #[.int 5, .int 5, .int 5, .int 5]
def aboutOver (below : List Frame) : State where
  vm := { classes := classes, interned := interned.toArray }
  heap := heap
  slotsUsed := slotsUsed
  threads := #[{ frames := .invoking theMethod args0 :: below }]
def below0 : List Frame := [.native { method := ⟨0, 0⟩, args := #[] }]
def about1 : State := aboutOver below0
def p0 : Program := .bare "" "" ""
def e0 : Env := launch0.env 0 0 0
theorem w_frames : about1.frames = Frame.invoking theMethod args0 :: below0 := rfl
set_option maxRecDepth 65536 in
theorem w_args : argsFit about1.vm theMethod args0 = true := by decide +kernel
set_option maxRecDepth 65536 in
theorem w_heap : heapFits about1 = true := by decide +kernel
set_option maxRecDepth 65536 in
theorem w_runnable : about1.curStatus? = some .runnable := by decide +kernel
set_option maxRecDepth 65536 in
theorem w_alone : about1.alone = true := by decide +kernel
set_option maxRecDepth 65536 in
theorem w_named : about1.methodNamed? x = some theMethod := by decide +kernel
set_option maxRecDepth 65536 in
theorem w_hears : about1.hears theMethod below0 = true := by decide +kernel
set_option maxRecDepth 65536 in
theorem w_ripe : about1.ripe theMethod args0 below0 = true := by decide +kernel
theorem w_running : about1.status = .running := rfl
set_option maxRecDepth 65536 in
theorem w_room : about1.hasRoom e0.platform room_1 = true :=
  launch0.hasRoom_least _ room_1 (by decide +kernel) (by decide +kernel) (by decide +kernel) (by decide +kernel) (by decide +kernel) (by decide +kernel)
theorem allAtoms_all (ts : List Jvm.Cond) (a : Array Jvm.Value) (st : Jvm.State) : (allAtoms ts).before a st = ts.all (fun c => c.before a st) := by
  induction ts with
  | nil => rfl
  | cons c t ih =>
    show (Jvm.Cond.and c (allAtoms t)).before a st = _
    rw [Jvm.Cond.before_and, ih, List.all_cons]
def words1 : List Jvm.Cond := Jvm.Cond.code x code maxLocals ret :: tables_1
/-- a 'code' word, met by the world's own term for the bytes: nothing is compared byte by byte -/
theorem code_word {y : MethodName} {bytes : ByteArray} {mx : Nat} {rt : Option FieldType} {a : Array Value} {s : State} {m : MethodId} {meth : Method} {c : Code} (h1 : s.methodNamed? y = some m) (h2 : s.vm.method? m = some meth) (h3 : meth.code = some c) (h4 : c.code = bytes)
    (h5 : (c.maxLocals == mx && c.exceptionTable.isEmpty && decide (c.maxStack ≤ mostOperands) && decide (meth.sig.returnType = rt) && !meth.locks && decide (parseMethodDescriptor y.desc = some meth.sig)) = true) : (Jvm.Cond.code y bytes mx rt).before a s = true := by
  simp only [Bool.and_eq_true, beq_iff_eq, Bool.not_eq_true', decide_eq_true_eq] at h5
  obtain ⟨⟨⟨⟨⟨g1, g2⟩, g3⟩, g4⟩, g5⟩, g6⟩ := h5
  simp [Cond.before, Cond.holds, Cond.value, h1, h2, h3, h4, g1, g2, g3, g4, g5, g6]
def isCode : Jvm.Cond → Bool
  | .code _ _ _ _ => true
  | _ => false
theorem all_split {L : List Jvm.Cond} {P : Jvm.Cond → Bool} (h1 : L.all (fun c => isCode c || P c) = true) (h2 : ∀ c ∈ L.filter isCode, P c = true) : L.all P = true := by
  refine List.all_eq_true.mpr fun c hc => ?_
  have h := List.all_eq_true.mp h1 c hc
  rcases Bool.eq_false_or_eq_true (isCode c) with hi | hi
  · exact h2 c (List.mem_filter.mpr ⟨hc, hi⟩)
  · simpa [hi] using h
set_option maxRecDepth 65536 in
theorem w_c0 : (Jvm.Cond.code x code maxLocals ret).before args0 about1 = true := code_word (m := ⟨1, 3⟩) (meth := k1m3) (c := k1c3) (by decide +kernel) rfl rfl rfl (by decide +kernel)
set_option maxRecDepth 65536 in
theorem w_c1 : (Jvm.Cond.code ({ cls := "com/example/benchwire/benchwire/protocol/hl7/MllpCanCarryPinLaw", name := "draw", desc := "(I)C" } : Jvm.MethodName) method_2_code (2 : Nat) (Option.some Jvm.ClassFile.FieldType.char)).before args0 about1 = true := code_word (m := ⟨1, 1⟩) (meth := k1m1) (c := k1c1) (by decide +kernel) rfl rfl rfl (by decide +kernel)
set_option maxRecDepth 65536 in
theorem w_c2 : (Jvm.Cond.code ({ cls := "java/lang/String", name := "<init>", desc := "([C)V" } : Jvm.MethodName) jdk_42_method_3_code (2 : Nat) (Option.none : Option Jvm.ClassFile.FieldType)).before args0 about1 = true := code_word (m := ⟨7, 1⟩) (meth := k7m1) (c := k7c1) (by decide +kernel) rfl rfl rfl (by decide +kernel)
set_option maxRecDepth 65536 in
theorem w_c3 : (Jvm.Cond.code ({ cls := "java/lang/String", name := "<init>", desc := "([CIILjava/lang/Void;)V" } : Jvm.MethodName) jdk_42_method_149_code (6 : Nat) (Option.none : Option Jvm.ClassFile.FieldType)).before args0 about1 = true := code_word (m := ⟨7, 5⟩) (meth := k7m5) (c := k7c5) (by decide +kernel) rfl rfl rfl (by decide +kernel)
set_option maxRecDepth 65536 in
theorem w_c4 : (Jvm.Cond.code ({ cls := "java/lang/Object", name := "<init>", desc := "()V" } : Jvm.MethodName) object_method_1_code (1 : Nat) (Option.none : Option Jvm.ClassFile.FieldType)).before args0 about1 = true := code_word (m := ⟨0, 0⟩) (meth := k0m0) (c := k0c0) (by decide +kernel) rfl rfl rfl (by decide +kernel)
set_option maxRecDepth 65536 in
theorem w_c5 : (Jvm.Cond.code ({ cls := "java/lang/StringUTF16", name := "compress", desc := "([CII)[B" } : Jvm.MethodName) jdk_52_method_16_code (6 : Nat) (Option.some (Jvm.ClassFile.FieldType.array Jvm.ClassFile.FieldType.byte))).before args0 about1 = true := code_word (m := ⟨8, 2⟩) (meth := k8m2) (c := k8c2) (by decide +kernel) rfl rfl rfl (by decide +kernel)
set_option maxRecDepth 65536 in
theorem w_c6 : (Jvm.Cond.code ({ cls := "java/lang/StringUTF16", name := "compress", desc := "([CI[BII)I" } : Jvm.MethodName) jdk_52_method_21_code (7 : Nat) (Option.some Jvm.ClassFile.FieldType.int)).before args0 about1 = true := code_word (m := ⟨8, 3⟩) (meth := k8m3) (c := k8c3) (by decide +kernel) rfl rfl rfl (by decide +kernel)
set_option maxRecDepth 65536 in
theorem w_c7 : (Jvm.Cond.code ({ cls := "java/lang/StringUTF16", name := "coderFromArrayLen", desc := "([BI)B" } : Jvm.MethodName) jdk_52_method_15_code (2 : Nat) (Option.some Jvm.ClassFile.FieldType.byte)).before args0 about1 = true := code_word (m := ⟨8, 1⟩) (meth := k8m1) (c := k8c1) (by decide +kernel) rfl rfl rfl (by decide +kernel)
set_option maxRecDepth 65536 in
theorem w_c8 : (Jvm.Cond.code ({ cls := "com/example/benchwire/benchwire/protocol/hl7/MllpCanCarryPinLaw", name := "free", desc := "(C)Z" } : Jvm.MethodName) method_3_code (1 : Nat) (Option.some Jvm.ClassFile.FieldType.boolean)).before args0 about1 = true := code_word (m := ⟨1, 2⟩) (meth := k1m2) (c := k1c2) (by decide +kernel) rfl rfl rfl (by decide +kernel)
set_option maxRecDepth 65536 in
theorem w_c9 : (Jvm.Cond.code ({ cls := "com/example/benchwire/benchwire/protocol/hl7/Mllp", name := "canCarry", desc := "(Ljava/lang/String;)Z" } : Jvm.MethodName) prog_109_method_2_code (1 : Nat) (Option.some Jvm.ClassFile.FieldType.boolean)).before args0 about1 = true := code_word (m := ⟨9, 1⟩) (meth := k9m1) (c := k9c1) (by decide +kernel) rfl rfl rfl (by decide +kernel)
set_option maxRecDepth 65536 in
theorem w_c10 : (Jvm.Cond.code ({ cls := "java/lang/String", name := "indexOf", desc := "(I)I" } : Jvm.MethodName) jdk_42_method_79_code (2 : Nat) (Option.some Jvm.ClassFile.FieldType.int)).before args0 about1 = true := code_word (m := ⟨7, 3⟩) (meth := k7m3) (c := k7c3) (by decide +kernel) rfl rfl rfl (by decide +kernel)
set_option maxRecDepth 65536 in
theorem w_c11 : (Jvm.Cond.code ({ cls := "java/lang/String", name := "indexOf", desc := "(II)I" } : Jvm.MethodName) jdk_42_method_80_code (3 : Nat) (Option.some Jvm.ClassFile.FieldType.int)).before args0 about1 = true := code_word (m := ⟨7, 4⟩) (meth := k7m4) (c := k7c4) (by decide +kernel) rfl rfl rfl (by decide +kernel)
set_option maxRecDepth 65536 in
theorem w_c12 : (Jvm.Cond.code ({ cls := "java/lang/String", name := "isLatin1", desc := "()Z" } : Jvm.MethodName) jdk_42_method_154_code (1 : Nat) (Option.some Jvm.ClassFile.FieldType.boolean)).before args0 about1 = true := code_word (m := ⟨7, 7⟩) (meth := k7m7) (c := k7c7) (by decide +kernel) rfl rfl rfl (by decide +kernel)
set_option maxRecDepth 65536 in
theorem w_c13 : (Jvm.Cond.code ({ cls := "java/lang/String", name := "length", desc := "()I" } : Jvm.MethodName) jdk_42_method_54_code (1 : Nat) (Option.some Jvm.ClassFile.FieldType.int)).before args0 about1 = true := code_word (m := ⟨7, 2⟩) (meth := k7m2) (c := k7c2) (by decide +kernel) rfl rfl rfl (by decide +kernel)
set_option maxRecDepth 65536 in
theorem w_c14 : (Jvm.Cond.code ({ cls := "java/lang/String", name := "coder", desc := "()B" } : Jvm.MethodName) jdk_42_method_152_code (1 : Nat) (Option.some Jvm.ClassFile.FieldType.byte)).before args0 about1 = true := code_word (m := ⟨7, 6⟩) (meth := k7m6) (c := k7c6) (by decide +kernel) rfl rfl rfl (by decide +kernel)
set_option maxRecDepth 65536 in
theorem w_c15 : (Jvm.Cond.code ({ cls := "java/lang/StringLatin1", name := "indexOf", desc := "([BIII)I" } : Jvm.MethodName) jdk_43_method_22_code (4 : Nat) (Option.some Jvm.ClassFile.FieldType.int)).before args0 about1 = true := code_word (m := ⟨10, 2⟩) (meth := k10m2) (c := k10c2) (by decide +kernel) rfl rfl rfl (by decide +kernel)
set_option maxRecDepth 65536 in
theorem w_c16 : (Jvm.Cond.code ({ cls := "java/lang/StringLatin1", name := "canEncode", desc := "(I)Z" } : Jvm.MethodName) jdk_43_method_4_code (1 : Nat) (Option.some Jvm.ClassFile.FieldType.boolean)).before args0 about1 = true := code_word (m := ⟨10, 1⟩) (meth := k10m1) (c := k10c1) (by decide +kernel) rfl rfl rfl (by decide +kernel)
set_option maxRecDepth 65536 in
theorem w_c17 : (Jvm.Cond.code ({ cls := "java/lang/Math", name := "max", desc := "(II)I" } : Jvm.MethodName) jdk_29_method_65_code (2 : Nat) (Option.some Jvm.ClassFile.FieldType.int)).before args0 about1 = true := code_word (m := ⟨11, 1⟩) (meth := k11m1) (c := k11c1) (by decide +kernel) rfl rfl rfl (by decide +kernel)
set_option maxRecDepth 65536 in
theorem w_c18 : (Jvm.Cond.code ({ cls := "java/lang/Math", name := "min", desc := "(II)I" } : Jvm.MethodName) jdk_29_method_69_code (2 : Nat) (Option.some Jvm.ClassFile.FieldType.int)).before args0 about1 = true := code_word (m := ⟨11, 2⟩) (meth := k11m2) (c := k11c2) (by decide +kernel) rfl rfl rfl (by decide +kernel)
set_option maxRecDepth 65536 in
theorem w_c19 : (Jvm.Cond.code ({ cls := "java/lang/StringLatin1", name := "indexOfChar", desc := "([BIII)I" } : Jvm.MethodName) jdk_43_method_23_code (6 : Nat) (Option.some Jvm.ClassFile.FieldType.int)).before args0 about1 = true := code_word (m := ⟨10, 3⟩) (meth := k10m3) (c := k10c3) (by decide +kernel) rfl rfl rfl (by decide +kernel)
def codes1 : List Jvm.Cond := [Jvm.Cond.code x code maxLocals ret, Jvm.Cond.code ({ cls := "com/example/benchwire/benchwire/protocol/hl7/MllpCanCarryPinLaw", name := "draw", desc := "(I)C" } : Jvm.MethodName) method_2_code (2 : Nat) (Option.some Jvm.ClassFile.FieldType.char), Jvm.Cond.code ({ cls := "java/lang/String", name := "<init>", desc := "([C)V" } : Jvm.MethodName) jdk_42_method_3_code (2 : Nat) (Option.none : Option Jvm.ClassFile.FieldType), Jvm.Cond.code ({ cls := "java/lang/String", name := "<init>", desc := "([CIILjava/lang/Void;)V" } : Jvm.MethodName) jdk_42_method_149_code (6 : Nat) (Option.none : Option Jvm.ClassFile.FieldType), Jvm.Cond.code ({ cls := "java/lang/Object", name := "<init>", desc := "()V" } : Jvm.MethodName) object_method_1_code (1 : Nat) (Option.none : Option Jvm.ClassFile.FieldType), Jvm.Cond.code ({ cls := "java/lang/StringUTF16", name := "compress", desc := "([CII)[B" } : Jvm.MethodName) jdk_52_method_16_code (6 : Nat) (Option.some (Jvm.ClassFile.FieldType.array Jvm.ClassFile.FieldType.byte)), Jvm.Cond.code ({ cls := "java/lang/StringUTF16", name := "compress", desc := "([CI[BII)I" } : Jvm.MethodName) jdk_52_method_21_code (7 : Nat) (Option.some Jvm.ClassFile.FieldType.int), Jvm.Cond.code ({ cls := "java/lang/StringUTF16", name := "coderFromArrayLen", desc := "([BI)B" } : Jvm.MethodName) jdk_52_method_15_code (2 : Nat) (Option.some Jvm.ClassFile.FieldType.byte), Jvm.Cond.code ({ cls := "com/example/benchwire/benchwire/protocol/hl7/MllpCanCarryPinLaw", name := "free", desc := "(C)Z" } : Jvm.MethodName) method_3_code (1 : Nat) (Option.some Jvm.ClassFile.FieldType.boolean), Jvm.Cond.code ({ cls := "com/example/benchwire/benchwire/protocol/hl7/Mllp", name := "canCarry", desc := "(Ljava/lang/String;)Z" } : Jvm.MethodName) prog_109_method_2_code (1 : Nat) (Option.some Jvm.ClassFile.FieldType.boolean), Jvm.Cond.code ({ cls := "java/lang/String", name := "indexOf", desc := "(I)I" } : Jvm.MethodName) jdk_42_method_79_code (2 : Nat) (Option.some Jvm.ClassFile.FieldType.int), Jvm.Cond.code ({ cls := "java/lang/String", name := "indexOf", desc := "(II)I" } : Jvm.MethodName) jdk_42_method_80_code (3 : Nat) (Option.some Jvm.ClassFile.FieldType.int), Jvm.Cond.code ({ cls := "java/lang/String", name := "isLatin1", desc := "()Z" } : Jvm.MethodName) jdk_42_method_154_code (1 : Nat) (Option.some Jvm.ClassFile.FieldType.boolean), Jvm.Cond.code ({ cls := "java/lang/String", name := "length", desc := "()I" } : Jvm.MethodName) jdk_42_method_54_code (1 : Nat) (Option.some Jvm.ClassFile.FieldType.int), Jvm.Cond.code ({ cls := "java/lang/String", name := "coder", desc := "()B" } : Jvm.MethodName) jdk_42_method_152_code (1 : Nat) (Option.some Jvm.ClassFile.FieldType.byte), Jvm.Cond.code ({ cls := "java/lang/StringLatin1", name := "indexOf", desc := "([BIII)I" } : Jvm.MethodName) jdk_43_method_22_code (4 : Nat) (Option.some Jvm.ClassFile.FieldType.int), Jvm.Cond.code ({ cls := "java/lang/StringLatin1", name := "canEncode", desc := "(I)Z" } : Jvm.MethodName) jdk_43_method_4_code (1 : Nat) (Option.some Jvm.ClassFile.FieldType.boolean), Jvm.Cond.code ({ cls := "java/lang/Math", name := "max", desc := "(II)I" } : Jvm.MethodName) jdk_29_method_65_code (2 : Nat) (Option.some Jvm.ClassFile.FieldType.int), Jvm.Cond.code ({ cls := "java/lang/Math", name := "min", desc := "(II)I" } : Jvm.MethodName) jdk_29_method_69_code (2 : Nat) (Option.some Jvm.ClassFile.FieldType.int), Jvm.Cond.code ({ cls := "java/lang/StringLatin1", name := "indexOfChar", desc := "([BIII)I" } : Jvm.MethodName) jdk_43_method_23_code (6 : Nat) (Option.some Jvm.ClassFile.FieldType.int)]
set_option maxRecDepth 65536 in
theorem codes_eq : words1.filter isCode = codes1 := rfl
theorem w_codes : ∀ c ∈ words1.filter isCode, c.before args0 about1 = true := by
  rw [codes_eq]
  intro c hc
  simp only [codes1, List.mem_cons, List.not_mem_nil, or_false] at hc
  rcases hc with rfl | rfl | rfl | rfl | rfl | rfl | rfl | rfl | rfl | rfl | rfl | rfl | rfl | rfl | rfl | rfl | rfl | rfl | rfl | rfl
  · exact w_c0
  · exact w_c1
  · exact w_c2
  · exact w_c3
  · exact w_c4
  · exact w_c5
  · exact w_c6
  · exact w_c7
  · exact w_c8
  · exact w_c9
  · exact w_c10
  · exact w_c11
  · exact w_c12
  · exact w_c13
  · exact w_c14
  · exact w_c15
  · exact w_c16
  · exact w_c17
  · exact w_c18
  · exact w_c19
set_option maxRecDepth 65536 in
theorem w_t1 : (words1.take 24).all (fun c => isCode c || c.before args0 about1) = true := by decide +kernel
set_option maxRecDepth 65536 in
theorem w_t2 : ((words1.drop 24).take 24).all (fun c => isCode c || c.before args0 about1) = true := by decide +kernel
set_option maxRecDepth 65536 in
theorem w_t3 : (((words1.drop 24).drop 24).take 24).all (fun c => isCode c || c.before args0 about1) = true := by decide +kernel
set_option maxRecDepth 65536 in
theorem w_t4 : (((words1.drop 24).drop 24).drop 24).all (fun c => isCode c || c.before args0 about1) = true := by decide +kernel
theorem w_tables : (allAtoms (Jvm.Cond.code x code maxLocals ret :: tables_1)).before args0 about1 = true := by
  rw [allAtoms_all]
  show words1.all (fun c => c.before args0 about1) = true
  refine all_split ?_ w_codes
  rw [← List.take_append_drop 24 words1, List.all_append, w_t1, ← List.take_append_drop 24 (words1.drop 24), List.all_append, w_t2, ← List.take_append_drop 24 ((words1.drop 24).drop 24), List.all_append, w_t3, w_t4]
  rfl
set_option maxRecDepth 65536 in
theorem w_rest : rest_1_c.before args0 about1 = true := by decide +kernel
set_option maxRecDepth 65536 in
theorem w_case : (Jvm.Cond.and given_1 narrow_1).before args0 about1 = true := by decide +kernel
set_option maxRecDepth 65536 in
theorem w_consts : constsHeld consts_1 about1 := Jvm.Lit.constsHeldB_iff.mp (by decide +kernel)
theorem w_applies : (headSpec (Jvm.Cond.code x code maxLocals ret :: tables_1) room_1).applies x e0.platform about1 = true :=
  (Spec.applies_iff w_frames).mpr ⟨w_running, w_runnable, w_alone, w_named, w_hears, w_ripe, w_room, w_tables⟩
theorem atStart : AtStart classFile x code maxLocals ret World_1 tables_1 room_1 Calls_1 rest_1 Pre_1 launch0 p0 e0 about1 theMethod args0 below0 :=
  ⟨lists_1, trivial, launch0.admits_env _ _ _, launch0.least_env, fairChoices_fair.cas, fairChoices_fair.clock, w_frames, w_args, w_heap, w_applies, ⟨w_consts, trivial⟩, w_rest, w_case⟩
end start1
theorem witness_1 : WitnessClaimed_1 := ⟨start1.p0, start1.e0, start1.about1, start1.theMethod, start1.args0, start1.below0, start1.atStart⟩
end Jvm.Pilot.@@N@@
