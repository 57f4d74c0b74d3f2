import JvmDerived
import JvmDerived.Pilot.@@N@@Statement
import JvmDerived.Pilot.@@N@@Code
set_option linter.unusedVariables false
set_option linter.unusedSimpArgs false

/- laws to paste: Road.backV, Road.eqW, Road.codOf, pair_says, shr0, narrow_ch (cut by pick.py; bodies as the Statement names them) -/
namespace Jvm.Pilot.@@N@@
namespace StrChars
open Jvm Sem ClassFile Op Lib Jvm.Stand Jvm.Free.XT Jvm.Free.ALB Jvm.Free.JM Jvm.Free
open Jvm.Lib.Cold (StaticIs)
/-- a char array whose places are chars -/
def Ch (a : Addr) (A : Cell) (U : State) : Prop := Arr .char a A U ∧ Typed .char A
theorem Ch.mv {a : Addr} {A : Cell} {U U' : State} (h : Ch a A U) (hal : U.vm.Alike U'.vm) (hh : U'.heap = U.heap) : Ch a A U' := ⟨h.1.mv hal hh, h.2⟩
theorem Ch.keep {a : Addr} {A : Cell} {U U' : State} (h : Ch a A U) (hal : U.vm.Alike U'.vm) (hk : U'.heap[a]? = some A) : Ch a A U' := ⟨h.1.keep hal hk, h.2⟩
/-- what place i of a char[]'s cell holds -/
def cv (A : Cell) (i : Nat) : Int32 := match A.slots[i]? with | some (.int x) => x | _ => 0
theorem Ch.get {a : Addr} {A : Cell} {U : State} (h : Ch a A U) {i : Nat} (hi : i < A.slots.size) : A.slots[i]? = some (.int (cv A i)) := by
  have e := Array.getElem?_eq_getElem hi
  have f := h.2 i _ e
  unfold cv; rw [e]
  generalize A.slots[i] = v at f
  cases v <;> simp [fits] at f ⊢
/-- the byte that i2b leaves of a char -/
def lo8 (x : Int32) : Int32 := x.toInt8.toInt32
theorem fits_lo8 (y : Int32) : fits .byte (.int (lo8 y)) = true := by
  have h1 := y.toInt8.le_toInt
  have h2 := y.toInt8.toInt_lt
  simp only [lo8, fits, Bool.and_eq_true, decide_eq_true_eq, Int32.le_iff_toInt_le, Int8.toInt_toInt32, show (-128 : Int32).toInt = -128 from by decide, show (127 : Int32).toInt = 127 from by decide]
  omega
/-- A' is A but that each place j of lo .. hi - 1 holds f j -/
def Laid (A A' : Cell) (lo hi : Nat) (f : Nat → Value) : Prop := A'.cls = A.cls ∧ A'.vm = A.vm ∧ A'.slots.size = A.slots.size ∧ ∀ i, A'.slots[i]? = if lo ≤ i ∧ i < hi then some (f i) else A.slots[i]?
theorem Laid.zero (A : Cell) (lo : Nat) (f : Nat → Value) : Laid A A lo (lo + 0) f := ⟨rfl, rfl, rfl, fun i => by rw [if_neg (by omega)]⟩
theorem Laid.step {A Ak : Cell} {lo k : Nat} {f : Nat → Value} {v : Value} (h : Laid A Ak lo k f) (hlo : lo ≤ k) (hk : k < Ak.slots.size) (hv : v = f k) : Laid A (Ak.setSlot k v) lo (k + 1) f := by
  refine ⟨h.1, h.2.1, by simpa [Cell.setSlot] using h.2.2.1, fun i => ?_⟩
  by_cases e : k = i
  · subst e; rw [Cell.slots_setSlot_self v hk, if_pos (by omega), hv]
  · rw [Cell.slots_setSlot_ne v e, h.2.2.2 i]
    by_cases q : lo ≤ i ∧ i < k
    · rw [if_pos q, if_pos (by omega)]
    · rw [if_neg q, if_neg (by omega)]
def U16 : String := "java/lang/StringUTF16"
namespace Cmp5
def yN : MethodName := ⟨"java/lang/StringUTF16", "compress", "([CI[BII)I"⟩
abbrev yB : ByteArray := jdk_52_method_21_code
theorem d0 : decode yB 0 = .ok (.iconst 0, 1) := by decide +kernel
theorem d1 : decode yB 1 = .ok (.istore 5, 2) := by decide +kernel
theorem d3 : decode yB 3 = .ok (.iload 5, 2) := by decide +kernel
theorem d5 : decode yB 5 = .ok (.iload 4, 2) := by decide +kernel
theorem d7 : decode yB 7 = .ok (.if_icmp (.ge) 37, 3) := by decide +kernel
theorem d10 : decode yB 10 = .ok (.aload_n 0, 1) := by decide +kernel
theorem d11 : decode yB 11 = .ok (.iload_n 1, 1) := by decide +kernel
theorem d12 : decode yB 12 = .ok (.caload, 1) := by decide +kernel
theorem d13 : decode yB 13 = .ok (.istore 6, 2) := by decide +kernel
theorem d15 : decode yB 15 = .ok (.iload 6, 2) := by decide +kernel
theorem d17 : decode yB 17 = .ok (.sipush 255, 3) := by decide +kernel
theorem d20 : decode yB 20 = .ok (.if_icmp (.le) 6, 3) := by decide +kernel
theorem d26 : decode yB 26 = .ok (.aload_n 2, 1) := by decide +kernel
theorem d27 : decode yB 27 = .ok (.iload_n 3, 1) := by decide +kernel
theorem d28 : decode yB 28 = .ok (.iload 6, 2) := by decide +kernel
theorem d30 : decode yB 30 = .ok (.i2b, 1) := by decide +kernel
theorem d31 : decode yB 31 = .ok (.bastore, 1) := by decide +kernel
theorem d32 : decode yB 32 = .ok (.iinc 1 1, 3) := by decide +kernel
theorem d35 : decode yB 35 = .ok (.iinc 3 1, 3) := by decide +kernel
theorem d38 : decode yB 38 = .ok (.iinc 5 1, 3) := by decide +kernel
theorem d41 : decode yB 41 = .ok (.goto (-38), 3) := by decide +kernel
theorem d44 : decode yB 44 = .ok (.iload 4, 2) := by decide +kernel
theorem d46 : decode yB 46 = .ok (.ireturn, 1) := by decide +kernel
def site : List Cond := []
def tab : Cond := tabOf yN yB 7 (some .int) site
def P (b : Addr) (A : Cell) (d : Addr) (B : Cell) (o q len : Nat) (args : Array Value) (s : State) : Prop := args = #[.ref b, .int (Int32.ofNat o), .ref d, .int (Int32.ofNat q), .int (Int32.ofNat len)] ∧ Ch b A s ∧ Arr .byte d B s ∧ b ≠ d ∧ o + len ≤ A.slots.size ∧ q + len ≤ B.slots.size ∧ ∀ i, i < len → ¬ 255 < cv A (o + i)
def E (b : Addr) (A : Cell) (d : Addr) (B : Cell) (o q len : Nat) (r : Option Value) (s u : State) : Prop := r = some (.int (Int32.ofNat len)) ∧ ∃ B', Put d B' s u ∧ Laid B B' q (q + len) (fun j => Value.int (lo8 (cv A (o + (j - q)))))
/-- no char of the range above 255: len; the places written hold each char's low byte -/
theorem law (l : Launch) (b : Addr) (A : Cell) (d : Addr) (B : Cell) (o q len : Nat) : Law l yN 5 5 0 0 yB 7 (some .int) site (P b A d B o q len) (E b A d B o q len) (copyLocs d q len) 0 0 := by
  refine Law.of_walk (plainFor_of_name (by decide +kernel)) (by decide +kernel) (by decide +kernel) (by decide) (fun _ _ h => by rw [h.1]; rfl) (fun _ U U' hal hh h => ⟨h.1, h.2.1.mv hal hh, h.2.2.1.mv hal hh, h.2.2.2⟩) (fun r U U' V V' h1 hal h2 h => ⟨h.1, h.2.elim fun B' q => ⟨B', q.1.mv h1 h2, q.2⟩⟩) ?_
  intro p e s m args below meth c s₁ X0 hexec hbytes hml hret hlk hnm hown hh0 W hP
  obtain ⟨rfl, hA, hB, hne, l1, l2, hp⟩ := hP
  have c1 : Steps p.tables e below (s₁.setTop (entryFrame m #[.ref b, .int (Int32.ofNat o), .ref d, .int (Int32.ofNat q), .int (Int32.ofNat len)] 7)) (s₁.setTop (mkF m 0 #[.val (.ref b), .val (.int (Int32.ofNat o)), .val (.ref d), .val (.int (Int32.ofNat q)), .val (.int (Int32.ofNat len)), .unset, .unset] [])) := entry rfl
  have hA0 := hA.1.mv X0.warmed.alike hh0
  have hB0 := hB.mv X0.warmed.alike hh0
  have a31 := hA.1.2.2.2
  have c2 : Steps p.tables e below (s₁.setTop (entryFrame m #[.ref b, .int (Int32.ofNat o), .ref d, .int (Int32.ofNat q), .int (Int32.ofNat len)] 7)) (s₁.setTop (mkF m 3 #[.val (.ref b), .val (.int (Int32.ofNat o)), .val (.ref d), .val (.int (Int32.ofNat q)), .val (.int (Int32.ofNat len)), .val (.int 0), .unset] [])) := c1.trans (by
    refine iconstV X0.here hexec rfl 0 (hb hbytes d0) (by decide) ?_
    refine XS.istore X0.here hexec rfl (hb hbytes d1) rfl rfl ?_
    exact Steps.refl _)
  have loop : ∀ (r i : Nat), i + r = len → ∀ (z : Slot), (z = .unset ∨ ∃ w, z = .val w ∧ w.category = 1) → ∀ (Tl : State) (Bk : Cell), Stand p l e { frames := 0, locals := 0, cells := 0, slots := 0 } s m #[.ref b, .int (Int32.ofNat o), .ref d, .int (Int32.ofNat q), .int (Int32.ofNat len)] below meth c Tl ([] ++ copyLocs d q i) 0 0 → Put d Bk s₁ Tl → Laid B Bk q (q + i) (fun j => Value.int (lo8 (cv A (o + (j - q))))) →
      Steps p.tables e below (s₁.setTop (entryFrame m #[.ref b, .int (Int32.ofNat o), .ref d, .int (Int32.ofNat q), .int (Int32.ofNat len)] 7)) (Tl.setTop (mkF m 3 #[.val (.ref b), .val (.int (Int32.ofNat (o + i))), .val (.ref d), .val (.int (Int32.ofNat (q + i))), .val (.int (Int32.ofNat len)), .val (.int (Int32.ofNat i)), z] [])) → ∃ (T' : State) (B' : Cell) (z' : Slot), Stand p l e { frames := 0, locals := 0, cells := 0, slots := 0 } s m #[.ref b, .int (Int32.ofNat o), .ref d, .int (Int32.ofNat q), .int (Int32.ofNat len)] below meth c T' ([] ++ copyLocs d q len) 0 0 ∧ Put d B' s₁ T' ∧ Laid B B' q (q + len) (fun j => Value.int (lo8 (cv A (o + (j - q))))) ∧
      Steps p.tables e below (s₁.setTop (entryFrame m #[.ref b, .int (Int32.ofNat o), .ref d, .int (Int32.ofNat q), .int (Int32.ofNat len)] 7)) (T'.setTop (mkF m 3 #[.val (.ref b), .val (.int (Int32.ofNat (o + len))), .val (.ref d), .val (.int (Int32.ofNat (q + len))), .val (.int (Int32.ofNat len)), .val (.int (Int32.ofNat len)), z'] [])) := by
    intro r
    induction r with
    | zero =>
      intro i hi z hz Tl Bk Xl pl fl cl
      have hil : i = len := by omega
      rw [hil] at Xl fl cl
      exact ⟨Tl, Bk, z, Xl, pl, fl, cl⟩
    | succ r ih =>
      intro i hi z hz Tl Bk Xl pl fl cl
      have all := X0.warmed.alike.symm.trans Xl.warmed.alike
      have hAl := hA0.keep all (pl.other hne hA0.1)
      have hBk := hB0.like all pl.1 fl.1 fl.2.1 fl.2.2.1
      have hlt : q + i < Bk.slots.size := by rw [fl.2.2.1]; omega
      have c3 : Steps p.tables e below (s₁.setTop (entryFrame m #[.ref b, .int (Int32.ofNat o), .ref d, .int (Int32.ofNat q), .int (Int32.ofNat len)] 7)) (Tl.setTop (mkF m 12 #[.val (.ref b), .val (.int (Int32.ofNat (o + i))), .val (.ref d), .val (.int (Int32.ofNat (q + i))), .val (.int (Int32.ofNat len)), .val (.int (Int32.ofNat i)), z] [.int (Int32.ofNat (o + i)), .ref b])) := cl.trans (by
        refine XS.iload Xl.here hexec rfl (hb hbytes d3) rfl ?_
        refine XS.iload Xl.here hexec rfl (hb hbytes d5) rfl ?_
        refine XS.icmpNo Xl.here hexec rfl (hb hbytes d7) rfl (ii_ge_f (lt32 (by omega) (by omega))) ?_
        refine XS.aloadN Xl.here hexec rfl (hb hbytes d10) rfl rfl ?_
        refine XS.iloadN Xl.here hexec rfl (hb hbytes d11) rfl ?_
        exact Steps.refl _)
      have c4 : Steps p.tables e below (s₁.setTop (entryFrame m #[.ref b, .int (Int32.ofNat o), .ref d, .int (Int32.ofNat q), .int (Int32.ofNat len)] 7)) (Tl.setTop (mkF m 13 #[.val (.ref b), .val (.int (Int32.ofNat (o + i))), .val (.ref d), .val (.int (Int32.ofNat (q + i))), .val (.int (Int32.ofNat len)), .val (.int (Int32.ofNat i)), z] [.int (cv A (o + i))])) := c3.trans (by
        refine Xl.aget hexec hAl rfl (hA.get (i := o + i) (by omega)) rfl rfl (hb hbytes d12) ?_
        exact Steps.refl _)
      have c5 : Steps p.tables e below (s₁.setTop (entryFrame m #[.ref b, .int (Int32.ofNat o), .ref d, .int (Int32.ofNat q), .int (Int32.ofNat len)] 7)) (Tl.setTop (mkF m 15 #[.val (.ref b), .val (.int (Int32.ofNat (o + i))), .val (.ref d), .val (.int (Int32.ofNat (q + i))), .val (.int (Int32.ofNat len)), .val (.int (Int32.ofNat i)), .val (.int (cv A (o + i)))] [])) := c4.trans (by
        refine XS.istoreS Xl.here hexec rfl (hb hbytes d13) rfl rfl hz ?_
        exact Steps.refl _)
      have c6 : Steps p.tables e below (s₁.setTop (entryFrame m #[.ref b, .int (Int32.ofNat o), .ref d, .int (Int32.ofNat q), .int (Int32.ofNat len)] 7)) (Tl.setTop (mkF m 31 #[.val (.ref b), .val (.int (Int32.ofNat (o + i))), .val (.ref d), .val (.int (Int32.ofNat (q + i))), .val (.int (Int32.ofNat len)), .val (.int (Int32.ofNat i)), .val (.int (cv A (o + i)))] [.int (lo8 (cv A (o + i))), .int (Int32.ofNat (q + i)), .ref d])) := c5.trans (by
        refine XS.iload Xl.here hexec rfl (hb hbytes d15) rfl ?_
        refine sipushV Xl.here hexec rfl 255 (hb hbytes d17) (by decide) ?_
        refine XS.icmpYes Xl.here hexec rfl (pc0 := 20) rfl (hb hbytes d20) rfl (ii_le_t (hp i (by omega))) (by decide) rfl ?_
        refine XS.aloadN Xl.here hexec rfl (hb hbytes d26) rfl rfl ?_
        refine XS.iloadN Xl.here hexec rfl (hb hbytes d27) rfl ?_
        refine XS.iload Xl.here hexec rfl (hb hbytes d28) rfl ?_
        refine i2b Xl.here hexec rfl (hb hbytes d30) rfl ?_
        exact Steps.refl _)
      obtain ⟨T7, X7, p7, st7⟩ := Xl.aput hexec hBk rfl hlt rfl (fits_lo8 (cv A (o + i))) (g := (mkF m 31 #[.val (.ref b), .val (.int (Int32.ofNat (o + i))), .val (.ref d), .val (.int (Int32.ofNat (q + i))), .val (.int (Int32.ofNat len)), .val (.int (Int32.ofNat i)), .val (.int (cv A (o + i)))] [.int (lo8 (cv A (o + i))), .int (Int32.ofNat (q + i)), .ref d])) rfl (rest := []) rfl (hb hbytes d31)
      have c8 : Steps p.tables e below (s₁.setTop (entryFrame m #[.ref b, .int (Int32.ofNat o), .ref d, .int (Int32.ofNat q), .int (Int32.ofNat len)] 7)) (T7.setTop (mkF m 32 #[.val (.ref b), .val (.int (Int32.ofNat (o + i))), .val (.ref d), .val (.int (Int32.ofNat (q + i))), .val (.int (Int32.ofNat len)), .val (.int (Int32.ofNat i)), .val (.int (cv A (o + i)))] [])) := c6.trans (st7 _ (Steps.refl _))
      have c9 : Steps p.tables e below (s₁.setTop (entryFrame m #[.ref b, .int (Int32.ofNat o), .ref d, .int (Int32.ofNat q), .int (Int32.ofNat len)] 7)) (T7.setTop (mkF m 3 #[.val (.ref b), .val (.int (Int32.ofNat (o + i) + 1)), .val (.ref d), .val (.int (Int32.ofNat (q + i) + 1)), .val (.int (Int32.ofNat len)), .val (.int (Int32.ofNat i + 1)), .val (.int (cv A (o + i)))] [])) := c8.trans (by
        refine iincV X7.here hexec rfl 1 (hb hbytes d32) (by decide) rfl rfl ?_
        refine iincV X7.here hexec rfl 1 (hb hbytes d35) (by decide) rfl rfl ?_
        refine iincV X7.here hexec rfl 1 (hb hbytes d38) (by decide) rfl rfl ?_
        refine XS.goto X7.here hexec rfl (pc0 := 41) rfl (hb hbytes d41) (by decide) rfl ?_
        exact Steps.refl _)
      have c10 : Steps p.tables e below (s₁.setTop (entryFrame m #[.ref b, .int (Int32.ofNat o), .ref d, .int (Int32.ofNat q), .int (Int32.ofNat len)] 7)) (T7.setTop (mkF m 3 #[.val (.ref b), .val (.int (Int32.ofNat (o + (i + 1)))), .val (.ref d), .val (.int (Int32.ofNat (q + (i + 1)))), .val (.int (Int32.ofNat len)), .val (.int (Int32.ofNat (i + 1))), .val (.int (cv A (o + i)))] [])) := by
        have := c9
        rw [succ32, succ32, succ32] at this
        exact this
      exact ih (i + 1) (by omega) _ (Or.inr ⟨_, rfl, rfl⟩) T7 _ (by rw [copyLocs_step, ← List.append_assoc]; exact X7) (pl.trans p7) (fl.step (by omega) hlt (by simp)) c10
  obtain ⟨T9, B9, z9, X9, p9, f9, g9⟩ := loop len 0 (by omega) .unset (Or.inl rfl) s₁ B (by simpa [copyLocs] using X0) ⟨hB0.1, fun _ _ => rfl, rfl⟩ (Laid.zero _ _ _) c2
  have c11 : Steps p.tables e below (s₁.setTop (entryFrame m #[.ref b, .int (Int32.ofNat o), .ref d, .int (Int32.ofNat q), .int (Int32.ofNat len)] 7)) (T9.setTop (mkF m 46 #[.val (.ref b), .val (.int (Int32.ofNat (o + len))), .val (.ref d), .val (.int (Int32.ofNat (q + len))), .val (.int (Int32.ofNat len)), .val (.int (Int32.ofNat len)), z9] [.int (Int32.ofNat len)])) := g9.trans (by
    refine XS.iload X9.here hexec rfl (hb hbytes d3) rfl ?_
    refine XS.iload X9.here hexec rfl (hb hbytes d5) rfl ?_
    refine XS.icmpYes X9.here hexec rfl (pc0 := 7) rfl (hb hbytes d7) rfl (ii_ge_t (nlt32 (by omega) (Nat.le_refl _))) (by decide) rfl ?_
    refine XS.iload X9.here hexec rfl (hb hbytes d44) rfl ?_
    exact Steps.refl _)
  exact ⟨T9, some (.int (Int32.ofNat len)), _, _, _, X9, by simp, rfl, rfl, (fun h => by cases h), ⟨rfl, B9, p9.from hh0, f9⟩, fun fs hl => c11.trans (X9.ireturnOut hexec hret rfl (Or.inl rfl) (hb hbytes d46) hl)⟩
end Cmp5
namespace Cmp3
def yN : MethodName := ⟨"java/lang/StringUTF16", "compress", "([CII)[B"⟩
abbrev yB : ByteArray := jdk_52_method_16_code
theorem d0 : decode yB 0 = .ok (.iload_n 2, 1) := by decide +kernel
theorem d1 : decode yB 1 = .ok (.newarray .byte, 2) := by decide +kernel
theorem d3 : decode yB 3 = .ok (.astore_n 3, 1) := by decide +kernel
theorem d4 : decode yB 4 = .ok (.aload_n 0, 1) := by decide +kernel
theorem d5 : decode yB 5 = .ok (.iload_n 1, 1) := by decide +kernel
theorem d6 : decode yB 6 = .ok (.aload_n 3, 1) := by decide +kernel
theorem d7 : decode yB 7 = .ok (.iconst 0, 1) := by decide +kernel
theorem d8 : decode yB 8 = .ok (.iload_n 2, 1) := by decide +kernel
theorem d9 : decode yB 9 = .ok (.invokestatic 115, 3) := by decide +kernel
theorem d12 : decode yB 12 = .ok (.istore 4, 2) := by decide +kernel
theorem d14 : decode yB 14 = .ok (.iload 4, 2) := by decide +kernel
theorem d16 : decode yB 16 = .ok (.iload_n 2, 1) := by decide +kernel
theorem d17 : decode yB 17 = .ok (.if_icmp (.eq) 40, 3) := by decide +kernel
theorem d57 : decode yB 57 = .ok (.aload_n 3, 1) := by decide +kernel
theorem d58 : decode yB 58 = .ok (.areturn, 1) := by decide +kernel
def site : List Cond := [.arrayClass .byte, Cmp5.tab] ++ staticW U16 115 Cmp5.yN
def tab : Cond := tabOf yN yB 6 (some (.array .byte)) site
def P (b : Addr) (A : Cell) (o len : Nat) (args : Array Value) (s : State) : Prop := args = #[.ref b, .int (Int32.ofNat o), .int (Int32.ofNat len)] ∧ Ch b A s ∧ o + len ≤ A.slots.size ∧ len ≤ 536870912 ∧ ∀ i, i < len → ¬ 255 < cv A (o + i)
def E (b : Addr) (A : Cell) (o len : Nat) (r : Option Value) (s u : State) : Prop := NewArr .byte "[B" len (fun j => .int (lo8 (cv A (o + j)))) r s u ∧ u.heap.size = s.heap.size + 1
/-- no char of the range above 255: a new byte[] of their low bytes -/
theorem law (l : Launch) (b : Addr) (A : Cell) (o len : Nat) : Law l yN 3 3 1 18 yB 6 (some (.array .byte)) site (P b A o len) (E b A o len) [] 1 len := by
  refine Law.of_walk (plainFor_of_name (by decide +kernel)) (by decide +kernel) (by decide +kernel) (by decide) (fun _ _ h => by rw [h.1]; rfl) (fun _ U U' hal hh h => ⟨h.1, h.2.1.mv hal hh, h.2.2⟩) (fun r U U' V V' h1 hal h2 h => ⟨NewArr.mv r U U' V V' h1 hal h2 h.1, by rw [h1, h2]; exact h.2⟩) ?_
  intro p e s m args below meth c s₁ X0 hexec hbytes hml hret hlk hnm hown hh0 W hP
  obtain ⟨rfl, hA, l1, l2, hp⟩ := hP
  have a31 := hA.1.2.2.2
  have c1 : Steps p.tables e below (s₁.setTop (entryFrame m #[.ref b, .int (Int32.ofNat o), .int (Int32.ofNat len)] 6)) (s₁.setTop (mkF m 0 #[.val (.ref b), .val (.int (Int32.ofNat o)), .val (.int (Int32.ofNat len)), .unset, .unset, .unset] [])) := entry rfl
  have c2 : Steps p.tables e below (s₁.setTop (entryFrame m #[.ref b, .int (Int32.ofNat o), .int (Int32.ofNat len)] 6)) (s₁.setTop (mkF m 1 #[.val (.ref b), .val (.int (Int32.ofNat o)), .val (.int (Int32.ofNat len)), .unset, .unset, .unset] [.int (Int32.ofNat len)])) := c1.trans (by
    refine XS.iloadN X0.here hexec rfl (hb hbytes d0) rfl ?_
    exact Steps.refl _)
  obtain ⟨T3, B3, X3, ba3, bs3, bv3, bh3, bf3, st3⟩ := X0.anew hexec (atype := .byte) (wk W (.arrayClass .byte)) rfl (by show len * 1 ≤ _; omega) (by omega) (g := (mkF m 1 #[.val (.ref b), .val (.int (Int32.ofNat o)), .val (.int (Int32.ofNat len)), .unset, .unset, .unset] [.int (Int32.ofNat len)])) rfl (hb hbytes d1) (rest := []) rfl (Nat.le_refl _) (by show 0 + len ≤ len; omega)
  rw [hh0] at ba3 st3
  have kp3 : XT.Kept s T3 := (XT.Kept.of_eq hh0).push bh3
  have hA3 := hA.keep X3.warmed.alike (kp3 _ _ hA.1.1)
  have hne : b ≠ s.heap.size := hA.1.ne
  have c4 : Steps p.tables e below (s₁.setTop (entryFrame m #[.ref b, .int (Int32.ofNat o), .int (Int32.ofNat len)] 6)) (T3.setTop (mkF m 3 #[.val (.ref b), .val (.int (Int32.ofNat o)), .val (.int (Int32.ofNat len)), .unset, .unset, .unset] [.ref s.heap.size])) := c2.trans (st3 _ (Steps.refl _))
  have c5 : Steps p.tables e below (s₁.setTop (entryFrame m #[.ref b, .int (Int32.ofNat o), .int (Int32.ofNat len)] 6)) (T3.setTop (mkF m 9 #[.val (.ref b), .val (.int (Int32.ofNat o)), .val (.int (Int32.ofNat len)), .val (.ref s.heap.size), .unset, .unset] [.int (Int32.ofNat len), .int 0, .ref s.heap.size, .int (Int32.ofNat o), .ref b])) := c4.trans (by
    refine XS.astoreN X3.here hexec rfl (hb hbytes d3) rfl rfl rfl ?_
    refine XS.aloadN X3.here hexec rfl (hb hbytes d4) rfl rfl ?_
    refine XS.iloadN X3.here hexec rfl (hb hbytes d5) rfl ?_
    refine XS.aloadN X3.here hexec rfl (hb hbytes d6) rfl rfl ?_
    refine iconstV X3.here hexec rfl 0 (hb hbytes d7) (by decide) ?_
    refine XS.iloadN X3.here hexec rfl (hb hbytes d8) rfl ?_
    exact Steps.refl _)
  obtain ⟨v6, T6, X6, E6, g6⟩ := X3.callS hexec (Cmp5.law l b A s.heap.size B3 o 0 len) hown (wks W (staticW U16 115 Cmp5.yN)) (wk W Cmp5.tab) (W := 0) (Nat.le_of_ble_eq_true rfl) (Nat.le_of_ble_eq_true rfl) (Nat.le_refl _) (by show 0 + len + 0 ≤ len; omega) (g := (mkF m 9 #[.val (.ref b), .val (.int (Int32.ofNat o)), .val (.int (Int32.ofNat len)), .val (.ref s.heap.size), .unset, .unset] [.int (Int32.ofNat len), .int (Int32.ofNat 0), .ref s.heap.size, .int (Int32.ofNat o), .ref b])) rfl (by rw [hml]; rfl) c5 (argsL := [.ref b, .int (Int32.ofNat o), .ref s.heap.size, .int (Int32.ofNat 0), .int (Int32.ofNat len)]) (rest := []) rfl rfl (by show 2 * 0 + 0 ≤ _; decide) (hb hbytes d9) (⟨rfl, hA3, ba3, hne, l1, by rw [bs3]; simp, hp⟩)
  obtain ⟨rfl, B6, p6, f6⟩ := E6
  have c7 : Steps p.tables e below (s₁.setTop (entryFrame m #[.ref b, .int (Int32.ofNat o), .int (Int32.ofNat len)] 6)) (T6.setTop (mkF m 12 #[.val (.ref b), .val (.int (Int32.ofNat o)), .val (.int (Int32.ofNat len)), .val (.ref s.heap.size), .unset, .unset] [.int (Int32.ofNat len)])) := g6
  have c8 : Steps p.tables e below (s₁.setTop (entryFrame m #[.ref b, .int (Int32.ofNat o), .int (Int32.ofNat len)] 6)) (T6.setTop (mkF m 58 #[.val (.ref b), .val (.int (Int32.ofNat o)), .val (.int (Int32.ofNat len)), .val (.ref s.heap.size), .val (.int (Int32.ofNat len)), .unset] [.ref s.heap.size])) := c7.trans (by
    refine XS.istore X6.here hexec rfl (hb hbytes d12) rfl rfl ?_
    refine XS.iload X6.here hexec rfl (hb hbytes d14) rfl ?_
    refine XS.iloadN X6.here hexec rfl (hb hbytes d16) rfl ?_
    refine XS.icmpYes X6.here hexec rfl (pc0 := 17) rfl (hb hbytes d17) rfl (ii_eq_t rfl) (by decide) rfl ?_
    refine XS.aloadN X6.here hexec rfl (hb hbytes d57) rfl rfl ?_
    exact Steps.refl _)
  have X8 := X6.wide (L' := []) (cells' := 1) (slots' := len) (fun x hx hlt => by
    simp only [List.nil_append, copyLocs, List.mem_map, List.mem_range] at hx
    obtain ⟨i, -, rfl⟩ := hx
    exact absurd hlt (Nat.lt_irrefl _)) (Nat.le_refl _) (by omega)
  exact ⟨T6, some (.ref s.heap.size), _, _, _, X8, rfl, rfl, rfl, (fun h => by cases h), ⟨⟨rfl, B6, ba3.like (X3.warmed.alike.symm.trans X6.warmed.alike) p6.1 f6.1 f6.2.1 f6.2.2.1, f6.2.1.trans bv3, by rw [X6.warmed.alike.findClass, f6.1]; exact bf3, by rw [f6.2.2.1, bs3]; simp, fun j hj => by rw [f6.2.2.2 j, if_pos (by omega)]; rfl, kp3.put p6 (Nat.le_refl _)⟩, by rw [p6.2.2, bh3, hh0]; simp⟩, fun fs hl => c8.trans (X8.areturnOut hexec rfl hret rfl (hb hbytes d58) hl)⟩
end Cmp3
namespace CodL
def yN : MethodName := ⟨"java/lang/StringUTF16", "coderFromArrayLen", "([BI)B"⟩
abbrev yB : ByteArray := jdk_52_method_15_code
theorem d0 : decode yB 0 = .ok (.iload_n 1, 1) := by decide +kernel
theorem d1 : decode yB 1 = .ok (.aload_n 0, 1) := by decide +kernel
theorem d2 : decode yB 2 = .ok (.arraylength, 1) := by decide +kernel
theorem d3 : decode yB 3 = .ok (.isub, 1) := by decide +kernel
theorem d4 : decode yB 4 = .ok (.bipush 31, 2) := by decide +kernel
theorem d6 : decode yB 6 = .ok (.iushr, 1) := by decide +kernel
theorem d7 : decode yB 7 = .ok (.i2b, 1) := by decide +kernel
theorem d8 : decode yB 8 = .ok (.ireturn, 1) := by decide +kernel
def site : List Cond := []
def tab : Cond := tabOf yN yB 2 (some .byte) site
def P (d : Addr) (B : Cell) (args : Array Value) (s : State) : Prop := args = #[.ref d, .int (Int32.ofNat B.slots.size)] ∧ Arr .byte d B s
def E (r : Option Value) (s u : State) : Prop := XT.PureE (some (.int 0)) r s u
/-- an array as long as the number of chars: LATIN1 -/
theorem law (l : Launch) (d : Addr) (B : Cell) : Law l yN 2 2 0 0 yB 2 (some .byte) site (P d B) E [] 0 0 := by
  refine Law.of_walk (plainFor_of_name (by decide +kernel)) (by decide +kernel) (by decide +kernel) (by decide) (fun _ _ h => by rw [h.1]; rfl) (fun _ U U' hal hh h => ⟨h.1, h.2.mv hal hh⟩) (fun r U U' V V' h1 hal h2 h => XT.PureE.mv r U U' V V' h1 hal h2 h) ?_
  intro p e s m args below meth c s₁ X0 hexec hbytes hml hret hlk hnm hown hh0 W hP
  obtain ⟨rfl, hB⟩ := hP
  have hB0 := hB.mv X0.warmed.alike hh0
  have c1 : Steps p.tables e below (s₁.setTop (entryFrame m #[.ref d, .int (Int32.ofNat B.slots.size)] 2)) (s₁.setTop (mkF m 0 #[.val (.ref d), .val (.int (Int32.ofNat B.slots.size))] [])) := entry rfl
  have c2 : Steps p.tables e below (s₁.setTop (entryFrame m #[.ref d, .int (Int32.ofNat B.slots.size)] 2)) (s₁.setTop (mkF m 2 #[.val (.ref d), .val (.int (Int32.ofNat B.slots.size))] [.ref d, .int (Int32.ofNat B.slots.size)])) := c1.trans (by
    refine XS.iloadN X0.here hexec rfl (hb hbytes d0) rfl ?_
    refine XS.aloadN X0.here hexec rfl (hb hbytes d1) rfl rfl ?_
    exact Steps.refl _)
  have c3 : Steps p.tables e below (s₁.setTop (entryFrame m #[.ref d, .int (Int32.ofNat B.slots.size)] 2)) (s₁.setTop (mkF m 8 #[.val (.ref d), .val (.int (Int32.ofNat B.slots.size))] [.int (lo8 (ushr (Int32.ofNat B.slots.size - Int32.ofNat B.slots.size) 31))])) := c2.trans (by
    refine X0.alen hexec hB0 rfl rfl (hb hbytes d2) ?_
    refine XS.isub X0.here hexec rfl (hb hbytes d3) rfl ?_
    refine bipushV X0.here hexec rfl 31 (hb hbytes d4) (by decide) ?_
    refine iushr X0.here hexec rfl (hb hbytes d6) rfl ?_
    refine i2b X0.here hexec rfl (hb hbytes d7) rfl ?_
    exact Steps.refl _)
  have e0 : lo8 (ushr (Int32.ofNat B.slots.size - Int32.ofNat B.slots.size) 31) = 0 := by rw [Int32.sub_self]; decide
  rw [e0] at c3
  exact ⟨s₁, some (.int 0), _, _, _, X0, rfl, rfl, rfl, (fun h => by cases h), ⟨rfl, hh0⟩, fun fs hl => c3.trans (X0.ireturnOut hexec hret rfl (Or.inr (Or.inr (Or.inl rfl))) (hb hbytes d8) hl)⟩
end CodL
/-- the String at a is Latin-1 over a new byte[] (the heap's one new cell): the low bytes of the len chars of A from o on; every cell but a is kept -/
def Got (a : Addr) (D : Cell) (fV fC : Field) (A : Cell) (o len : Nat) (r : Option Value) (s u : State) : Prop := r = none ∧ ∃ D' V : Cell, Blank "java/lang/String" a D' u ∧ Same D D' [fV.slot, fC.slot] ∧ D'.slots[fV.slot]? = some (.ref s.heap.size) ∧ D'.slots[fC.slot]? = some (.int 0) ∧ Arr .byte s.heap.size V u ∧ V.vm = .none ∧ u.vm.findClass "[B" = some V.cls ∧ V.slots.size = len ∧ (∀ j, j < len → V.slots[j]? = some (.int (lo8 (cv A (o + j))))) ∧ (∀ (y : Addr) (c : Cell), y ≠ a → s.heap[y]? = some c → u.heap[y]? = some c) ∧ u.heap.size = s.heap.size + 1
theorem Got.mv {a : Addr} {D A : Cell} {fV fC : Field} {o len : Nat} : ∀ r (U U' V V' : State), U'.heap = U.heap → V.vm.Alike V'.vm → V'.heap = V.heap → Got a D fV fC A o len r U V → Got a D fV fC A o len r U' V' :=
  fun r U U' V V' h1 hal h2 ⟨e0, D', X, a1, a2, a3, a4, a5, a6, a7, a8, a9, a10, a11⟩ => ⟨e0, D', X, a1.mv hal h2, a2, by rw [h1]; exact a3, a4, by rw [h1]; exact a5.mv hal h2, a6, by rw [hal.findClass]; exact a7, a8, a9, by rw [h1, h2]; exact a10, by rw [h1, h2]; exact a11⟩
namespace New4
def yN : MethodName := ⟨"java/lang/String", "<init>", "([CIILjava/lang/Void;)V"⟩
abbrev yB : ByteArray := jdk_42_method_149_code
theorem d0 : decode yB 0 = .ok (.aload_n 0, 1) := by decide +kernel
theorem d1 : decode yB 1 = .ok (.invokespecial 1, 3) := by decide +kernel
theorem d4 : decode yB 4 = .ok (.iload_n 3, 1) := by decide +kernel
theorem d5 : decode yB 5 = .ok (.ifCond (.ne) 22, 3) := by decide +kernel
theorem d27 : decode yB 27 = .ok (.getstatic 38, 3) := by decide +kernel
theorem d30 : decode yB 30 = .ok (.ifCond (.eq) 28, 3) := by decide +kernel
theorem d33 : decode yB 33 = .ok (.aload_n 1, 1) := by decide +kernel
theorem d34 : decode yB 34 = .ok (.iload_n 2, 1) := by decide +kernel
theorem d35 : decode yB 35 = .ok (.iload_n 3, 1) := by decide +kernel
theorem d36 : decode yB 36 = .ok (.invokestatic 177, 3) := by decide +kernel
theorem d39 : decode yB 39 = .ok (.astore 5, 2) := by decide +kernel
theorem d41 : decode yB 41 = .ok (.aload_n 0, 1) := by decide +kernel
theorem d42 : decode yB 42 = .ok (.aload 5, 2) := by decide +kernel
theorem d44 : decode yB 44 = .ok (.iload_n 3, 1) := by decide +kernel
theorem d45 : decode yB 45 = .ok (.invokestatic 47, 3) := by decide +kernel
theorem d48 : decode yB 48 = .ok (.putfield 15, 3) := by decide +kernel
theorem d51 : decode yB 51 = .ok (.aload_n 0, 1) := by decide +kernel
theorem d52 : decode yB 52 = .ok (.aload 5, 2) := by decide +kernel
theorem d54 : decode yB 54 = .ok (.putfield 9, 3) := by decide +kernel
theorem d57 : decode yB 57 = .ok (.return_, 1) := by decide +kernel
def site : List Cond := [.fieldLink "java/lang/String" 38 "java/lang/String" "COMPACT_STRINGS" "Z", Cmp3.tab, CodL.tab, .laysFinal "java/lang/String" "java/lang/String" "value" "[B", .fieldLink "java/lang/String" 9 "java/lang/String" "value" "[B", .laysFinal "java/lang/String" "java/lang/String" "coder" "B", .fieldLink "java/lang/String" 15 "java/lang/String" "coder" "B"] ++ objW "java/lang/String" 1 ++ staticW "java/lang/String" 177 Cmp3.yN ++ staticW "java/lang/String" 47 CodL.yN
def tab : Cond := tabOf yN yB 6 none site
def P (a : Addr) (D : Cell) (fV fC : Field) (b : Addr) (A : Cell) (z : Int32) (o len : Nat) (args : Array Value) (s : State) : Prop := args = #[.ref a, .ref b, .int (Int32.ofNat o), .int (Int32.ofNat len), .null] ∧ Blank "java/lang/String" a D s ∧ Found "java/lang/String" "value" "[B" fV s ∧ Found "java/lang/String" "coder" "B" fC s ∧ Ch b A s ∧ StaticIs s "java/lang/String" "COMPACT_STRINGS" "Z" (.int z) ∧ ¬ z = 0 ∧ 0 < len ∧ o + len ≤ A.slots.size ∧ len ≤ 536870912 ∧ ∀ i, i < len → ¬ 255 < cv A (o + i)
def E (a : Addr) (D : Cell) (fV fC : Field) (A : Cell) (o len : Nat) (r : Option Value) (s u : State) : Prop := Got a D fV fC A o len r s u
/-- len > 0, no char of the range above 255: a Latin-1 String of their low bytes -/
theorem law (l : Launch) (a : Addr) (D : Cell) (fV fC : Field) (b : Addr) (A : Cell) (z : Int32) (o len : Nat) : Law l yN 5 4 2 35 yB 6 none site (P a D fV fC b A z o len) (E a D fV fC A o len) [⟨a, fC.slot⟩, ⟨a, fV.slot⟩] 1 len := by
  refine Law.of_walk (plainFor_of_name (by decide +kernel)) (by decide +kernel) (by decide +kernel) (by decide) (fun _ _ h => by rw [h.1]; rfl) (fun _ U U' hal hh h => ⟨h.1, h.2.1.mv hal hh, h.2.2.1.al hal, h.2.2.2.1.al hal, h.2.2.2.2.1.mv hal hh, h.2.2.2.2.2.1.there hal hh, h.2.2.2.2.2.2⟩) (fun r U U' V V' h1 hal h2 h => Got.mv r U U' V V' h1 hal h2 h) ?_
  intro p e s m args below meth c s₁ X0 hexec hbytes hml hret hlk hnm hown hh0 W hP
  obtain ⟨rfl, hB, f1, f2, hA, s1, hz, l0, l1, l2, hp⟩ := hP
  have a31 := hA.1.2.2.2
  have c1 : Steps p.tables e below (s₁.setTop (entryFrame m #[.ref a, .ref b, .int (Int32.ofNat o), .int (Int32.ofNat len), .null] 6)) (s₁.setTop (mkF m 0 #[.val (.ref a), .val (.ref b), .val (.int (Int32.ofNat o)), .val (.int (Int32.ofNat len)), .val .null, .unset] [])) := entry rfl
  have c2 : Steps p.tables e below (s₁.setTop (entryFrame m #[.ref a, .ref b, .int (Int32.ofNat o), .int (Int32.ofNat len), .null] 6)) (s₁.setTop (mkF m 1 #[.val (.ref a), .val (.ref b), .val (.int (Int32.ofNat o)), .val (.int (Int32.ofNat len)), .val .null, .unset] [.ref a])) := c1.trans (by
    refine XS.aloadN X0.here hexec rfl (hb hbytes d0) rfl rfl ?_
    exact Steps.refl _)
  obtain ⟨T3, X3, q3, st3⟩ := X0.oinit hexec hown (wks W (objW "java/lang/String" 1)) (g := (mkF m 1 #[.val (.ref a), .val (.ref b), .val (.int (Int32.ofNat o)), .val (.int (Int32.ofNat len)), .val .null, .unset] [.ref a])) rfl (by rw [hml]; rfl) (rest := []) rfl (hb hbytes d1) (W := 0) (by show 2 * 0 + 0 ≤ _; decide) (Nat.le_of_ble_eq_true rfl) (Nat.le_of_ble_eq_true rfl)
  have hh3 := q3.trans hh0
  have c4 : Steps p.tables e below (s₁.setTop (entryFrame m #[.ref a, .ref b, .int (Int32.ofNat o), .int (Int32.ofNat len), .null] 6)) (T3.setTop (mkF m 27 #[.val (.ref a), .val (.ref b), .val (.int (Int32.ofNat o)), .val (.int (Int32.ofNat len)), .val .null, .unset] [])) := (c2.trans (st3 _ (Steps.refl _))).trans (by
    refine XS.iloadN X3.here hexec rfl (hb hbytes d4) rfl ?_
    refine XS.ifYes X3.here hexec rfl (pc0 := 5) rfl (hb hbytes d5) rfl (i0_ne_t (nz32 (by omega) l0)) (by decide) rfl ?_
    exact Steps.refl _)
  obtain ⟨T5, X5, q5, st5⟩ := X3.sget hexec hown (wk W (.fieldLink "java/lang/String" 38 "java/lang/String" "COMPACT_STRINGS" "Z")) s1 (fun _ _ h => by rw [hh3]; exact h) (g := (mkF m 27 #[.val (.ref a), .val (.ref b), .val (.int (Int32.ofNat o)), .val (.int (Int32.ofNat len)), .val .null, .unset] [])) rfl (hb hbytes d27)
  have hh5 := q5.trans hh3
  have c6 : Steps p.tables e below (s₁.setTop (entryFrame m #[.ref a, .ref b, .int (Int32.ofNat o), .int (Int32.ofNat len), .null] 6)) (T5.setTop (mkF m 30 #[.val (.ref a), .val (.ref b), .val (.int (Int32.ofNat o)), .val (.int (Int32.ofNat len)), .val .null, .unset] [.int z])) := c4.trans (st5 _ (Steps.refl _))
  have c7 : Steps p.tables e below (s₁.setTop (entryFrame m #[.ref a, .ref b, .int (Int32.ofNat o), .int (Int32.ofNat len), .null] 6)) (T5.setTop (mkF m 36 #[.val (.ref a), .val (.ref b), .val (.int (Int32.ofNat o)), .val (.int (Int32.ofNat len)), .val .null, .unset] [.int (Int32.ofNat len), .int (Int32.ofNat o), .ref b])) := c6.trans (by
    refine XS.ifNo X5.here hexec rfl (hb hbytes d30) rfl (i0_eq_f hz) ?_
    refine XS.aloadN X5.here hexec rfl (hb hbytes d33) rfl rfl ?_
    refine XS.iloadN X5.here hexec rfl (hb hbytes d34) rfl ?_
    refine XS.iloadN X5.here hexec rfl (hb hbytes d35) rfl ?_
    exact Steps.refl _)
  obtain ⟨v8, T8, X8, E8, g8⟩ := X5.callS hexec (Cmp3.law l b A o len) hown (wks W (staticW "java/lang/String" 177 Cmp3.yN)) (wk W Cmp3.tab) (W := 0) (Nat.le_of_ble_eq_true rfl) (Nat.le_of_ble_eq_true rfl) (Nat.le_refl _) (by show 0 + len ≤ len; omega) (g := (mkF m 36 #[.val (.ref a), .val (.ref b), .val (.int (Int32.ofNat o)), .val (.int (Int32.ofNat len)), .val .null, .unset] [.int (Int32.ofNat len), .int (Int32.ofNat o), .ref b])) rfl (by rw [hml]; rfl) c7 (argsL := [.ref b, .int (Int32.ofNat o), .int (Int32.ofNat len)]) (rest := []) rfl rfl (by show 2 * 0 + 0 ≤ _; decide) (hb hbytes d36) (⟨rfl, hA.mv X5.warmed.alike hh5, l1, l2, hp⟩)
  obtain ⟨e8, z8⟩ := E8
  obtain ⟨rfl, N, n1, n2, n3, n4, n5, n6⟩ := NewArr.mv _ T5 s _ _ hh5.symm (Vm.Alike.refl _) rfl e8
  rw [hh5] at z8
  have hB1 := hB.keep X8.warmed.alike (n6 _ _ hB.1)
  have hne : s.heap.size ≠ a := (Nat.ne_of_lt (Array.getElem?_eq_some_iff.mp hB.1).1).symm
  have c9 : Steps p.tables e below (s₁.setTop (entryFrame m #[.ref a, .ref b, .int (Int32.ofNat o), .int (Int32.ofNat len), .null] 6)) (T8.setTop (mkF m 39 #[.val (.ref a), .val (.ref b), .val (.int (Int32.ofNat o)), .val (.int (Int32.ofNat len)), .val .null, .unset] [.ref s.heap.size])) := g8
  have c10 : Steps p.tables e below (s₁.setTop (entryFrame m #[.ref a, .ref b, .int (Int32.ofNat o), .int (Int32.ofNat len), .null] 6)) (T8.setTop (mkF m 45 #[.val (.ref a), .val (.ref b), .val (.int (Int32.ofNat o)), .val (.int (Int32.ofNat len)), .val .null, .val (.ref s.heap.size)] [.int (Int32.ofNat N.slots.size), .ref s.heap.size, .ref a])) := by
    have hc : Steps p.tables e below (s₁.setTop (entryFrame m #[.ref a, .ref b, .int (Int32.ofNat o), .int (Int32.ofNat len), .null] 6)) (T8.setTop (mkF m 45 #[.val (.ref a), .val (.ref b), .val (.int (Int32.ofNat o)), .val (.int (Int32.ofNat len)), .val .null, .val (.ref s.heap.size)] [.int (Int32.ofNat len), .ref s.heap.size, .ref a])) := c9.trans (by
      refine XS.astore X8.here hexec rfl (hb hbytes d39) rfl rfl rfl ?_
      refine XS.aloadN X8.here hexec rfl (hb hbytes d41) rfl rfl ?_
      refine XS.aload X8.here hexec rfl (hb hbytes d42) rfl rfl ?_
      refine XS.iloadN X8.here hexec rfl (hb hbytes d44) rfl ?_
      exact Steps.refl _)
    rw [n4]; exact hc
  obtain ⟨v11, T11, X11, E11, g11⟩ := X8.callS hexec (CodL.law l s.heap.size N) hown (wks W (staticW "java/lang/String" 47 CodL.yN)) (wk W CodL.tab) (W := 1) (Nat.le_of_ble_eq_true rfl) (Nat.le_of_ble_eq_true rfl) (Nat.le_refl _) (by show 0 + len + 0 ≤ len; omega) (g := (mkF m 45 #[.val (.ref a), .val (.ref b), .val (.int (Int32.ofNat o)), .val (.int (Int32.ofNat len)), .val .null, .val (.ref s.heap.size)] [.int (Int32.ofNat N.slots.size), .ref s.heap.size, .ref a])) rfl (by rw [hml]; rfl) c10 (argsL := [.ref s.heap.size, .int (Int32.ofNat N.slots.size)]) (rest := [.ref a]) rfl rfl (by show 2 * 0 + (1 + 0) ≤ _; decide) (hb hbytes d45) (⟨rfl, n1⟩)
  obtain ⟨rfl, q11⟩ := E11
  have hB11 := hB1.mv (X8.warmed.alike.symm.trans X11.warmed.alike) q11
  have c12 : Steps p.tables e below (s₁.setTop (entryFrame m #[.ref a, .ref b, .int (Int32.ofNat o), .int (Int32.ofNat len), .null] 6)) (T11.setTop (mkF m 48 #[.val (.ref a), .val (.ref b), .val (.int (Int32.ofNat o)), .val (.int (Int32.ofNat len)), .val .null, .val (.ref s.heap.size)] [.int 0, .ref a])) := g11
  obtain ⟨T13, X13, p13, bl13, sl13, st13⟩ := X11.finit hexec hown (wk W (.fieldLink "java/lang/String" 15 "java/lang/String" "coder" "B")) (Or.inr ⟨_, (wk W (.laysFinal "java/lang/String" "java/lang/String" "coder" "B"))⟩) (Or.inl ⟨rfl, hnm⟩) f2 (Or.inl rfl) hB11 (t := .byte) (by decide +kernel) rfl (g := (mkF m 48 #[.val (.ref a), .val (.ref b), .val (.int (Int32.ofNat o)), .val (.int (Int32.ofNat len)), .val .null, .val (.ref s.heap.size)] [.int 0, .ref a])) rfl (rest := []) rfl (hb hbytes d48)
  have c14 : Steps p.tables e below (s₁.setTop (entryFrame m #[.ref a, .ref b, .int (Int32.ofNat o), .int (Int32.ofNat len), .null] 6)) (T13.setTop (mkF m 54 #[.val (.ref a), .val (.ref b), .val (.int (Int32.ofNat o)), .val (.int (Int32.ofNat len)), .val .null, .val (.ref s.heap.size)] [.ref s.heap.size, .ref a])) := (c12.trans (st13 _ (Steps.refl _))).trans (by
    refine XS.aloadN X13.here hexec rfl (hb hbytes d51) rfl rfl ?_
    refine XS.aload X13.here hexec rfl (hb hbytes d52) rfl rfl ?_
    exact Steps.refl _)
  obtain ⟨T15, X15, p15, bl15, sl15, st15⟩ := X13.finit hexec hown (wk W (.fieldLink "java/lang/String" 9 "java/lang/String" "value" "[B")) (Or.inr ⟨_, (wk W (.laysFinal "java/lang/String" "java/lang/String" "value" "[B"))⟩) (Or.inl ⟨rfl, hnm⟩) f1 (Or.inl rfl) bl13 (t := (.array .byte)) (by decide +kernel) rfl (g := (mkF m 54 #[.val (.ref a), .val (.ref b), .val (.int (Int32.ofNat o)), .val (.int (Int32.ofNat len)), .val .null, .val (.ref s.heap.size)] [.ref s.heap.size, .ref a])) rfl (rest := []) rfl (hb hbytes d54)
  have c16 : Steps p.tables e below (s₁.setTop (entryFrame m #[.ref a, .ref b, .int (Int32.ofNat o), .int (Int32.ofNat len), .null] 6)) (T15.setTop (mkF m 57 #[.val (.ref a), .val (.ref b), .val (.int (Int32.ofNat o)), .val (.int (Int32.ofNat len)), .val .null, .val (.ref s.heap.size)] [])) := c14.trans (st15 _ (Steps.refl _))
  have ap := apart (Or.inr ⟨_, (wk W (.laysFinal "java/lang/String" "java/lang/String" "value" "[B"))⟩) (Or.inr ⟨_, (wk W (.laysFinal "java/lang/String" "java/lang/String" "coder" "B"))⟩) f1 f2 (t₁ := .array .byte) (t₂ := .byte) (by decide +kernel) (by decide +kernel) (by decide)
  have al := X8.warmed.alike.symm.trans X15.warmed.alike
  have n7 : T11.heap[s.heap.size]? = some N := by rw [q11]; exact n1.1
  exact ⟨T15, none, _, _, _, X15, by simp, rfl, by omega, (fun _ => rfl), ⟨rfl, _, N, bl15, ((Same.refl D _).set _ (by simp)).set _ (by simp), sl15, (Cell.slots_setSlot_ne _ ap).trans sl13, n1.keep al (p15.other hne (p13.other hne n7)), n2, by rw [al.findClass]; exact n3, n4, n5, fun y c h1 h2 => p15.other h1 (p13.other h1 (by rw [q11]; exact n6 y c h2)), by rw [p15.2.2, p13.2.2, q11]; exact z8⟩, fun fs hl => c16.trans (X15.returnOut hexec hret (hb hbytes d57) hl)⟩
end New4
namespace New1
def yN : MethodName := ⟨"java/lang/String", "<init>", "([C)V"⟩
abbrev yB : ByteArray := jdk_42_method_3_code
theorem d0 : decode yB 0 = .ok (.aload_n 0, 1) := by decide +kernel
theorem d1 : decode yB 1 = .ok (.aload_n 1, 1) := by decide +kernel
theorem d2 : decode yB 2 = .ok (.iconst 0, 1) := by decide +kernel
theorem d3 : decode yB 3 = .ok (.aload_n 1, 1) := by decide +kernel
theorem d4 : decode yB 4 = .ok (.arraylength, 1) := by decide +kernel
theorem d5 : decode yB 5 = .ok (.aconst_null, 1) := by decide +kernel
theorem d6 : decode yB 6 = .ok (.invokespecial 27, 3) := by decide +kernel
theorem d9 : decode yB 9 = .ok (.return_, 1) := by decide +kernel
def site : List Cond := [New4.tab] ++ initW "java/lang/String" 27 New4.yN
def tab : Cond := tabOf yN yB 2 none site
def P (a : Addr) (D : Cell) (fV fC : Field) (b : Addr) (A : Cell) (z : Int32) (args : Array Value) (s : State) : Prop := args = #[.ref a, .ref b] ∧ Blank "java/lang/String" a D s ∧ Found "java/lang/String" "value" "[B" fV s ∧ Found "java/lang/String" "coder" "B" fC s ∧ Ch b A s ∧ StaticIs s "java/lang/String" "COMPACT_STRINGS" "Z" (.int z) ∧ ¬ z = 0 ∧ 0 < A.slots.size ∧ A.slots.size ≤ 536870912 ∧ ∀ i, i < A.slots.size → ¬ 255 < cv A i
def E (a : Addr) (D : Cell) (fV fC : Field) (A : Cell) (r : Option Value) (s u : State) : Prop := Got a D fV fC A 0 A.slots.size r s u
/-- new String(chars), not empty, no char above 255: a Latin-1 String of their low bytes -/
theorem law (l : Launch) (a : Addr) (D : Cell) (fV fC : Field) (b : Addr) (A : Cell) (z : Int32) : Law l yN 2 1 3 52 yB 2 none site (P a D fV fC b A z) (E a D fV fC A) [⟨a, fC.slot⟩, ⟨a, fV.slot⟩] 1 A.slots.size := by
  refine Law.of_walk (plainFor_of_name (by decide +kernel)) (by decide +kernel) (by decide +kernel) (by decide) (fun _ _ h => by rw [h.1]; rfl) (fun _ U U' hal hh h => ⟨h.1, h.2.1.mv hal hh, h.2.2.1.al hal, h.2.2.2.1.al hal, h.2.2.2.2.1.mv hal hh, h.2.2.2.2.2.1.there hal hh, h.2.2.2.2.2.2⟩) (fun r U U' V V' h1 hal h2 h => Got.mv r U U' V V' h1 hal h2 h) ?_
  intro p e s m args below meth c s₁ X0 hexec hbytes hml hret hlk hnm hown hh0 W hP
  obtain ⟨rfl, hB, f1, f2, hA, s1, hz, l0, l2, hp⟩ := hP
  have c1 : Steps p.tables e below (s₁.setTop (entryFrame m #[.ref a, .ref b] 2)) (s₁.setTop (mkF m 0 #[.val (.ref a), .val (.ref b)] [])) := entry rfl
  have c2 : Steps p.tables e below (s₁.setTop (entryFrame m #[.ref a, .ref b] 2)) (s₁.setTop (mkF m 6 #[.val (.ref a), .val (.ref b)] [.null, .int (Int32.ofNat A.slots.size), .int 0, .ref b, .ref a])) := c1.trans (by
    refine XS.aloadN X0.here hexec rfl (hb hbytes d0) rfl rfl ?_
    refine XS.aloadN X0.here hexec rfl (hb hbytes d1) rfl rfl ?_
    refine iconstV X0.here hexec rfl 0 (hb hbytes d2) (by decide) ?_
    refine XS.aloadN X0.here hexec rfl (hb hbytes d3) rfl rfl ?_
    refine X0.alen hexec (hA.1.mv X0.warmed.alike hh0) rfl rfl (hb hbytes d4) ?_
    refine XS.aconstNull X0.here hexec rfl (hb hbytes d5) ?_
    exact Steps.refl _)
  obtain ⟨v3, T3, X3, E3, g3⟩ := X0.callN hexec (New4.law l a D fV fC b A z 0 A.slots.size) rfl hown (wks W (initW "java/lang/String" 27 New4.yN)) (W New4.tab (by simp only [site, List.mem_cons, List.mem_append, true_or, or_true])) (W := 0) (Nat.le_of_ble_eq_true rfl) (Nat.le_of_ble_eq_true rfl) (Nat.le_refl _) (by show 0 + A.slots.size ≤ A.slots.size; omega) (g := (mkF m 6 #[.val (.ref a), .val (.ref b)] [.null, .int (Int32.ofNat A.slots.size), .int (Int32.ofNat 0), .ref b, .ref a])) rfl (by rw [hml]; rfl) c2 (argsL := [.ref b, .int (Int32.ofNat 0), .int (Int32.ofNat A.slots.size), .null]) (rest := []) rfl rfl (by show 2 * 0 + 0 ≤ _; decide) (hb hbytes d6) (⟨rfl, hB.mv X0.warmed.alike hh0, f1.al X0.warmed.alike, f2.al X0.warmed.alike, hA.mv X0.warmed.alike hh0, s1.there X0.warmed.alike hh0, hz, l0, by omega, l2, fun i hi => by rw [Nat.zero_add]; exact hp i hi⟩)
  have e0 := Got.mv _ s₁ s _ _ hh0.symm (Vm.Alike.refl _) rfl E3
  obtain rfl := e0.1
  have c4 : Steps p.tables e below (s₁.setTop (entryFrame m #[.ref a, .ref b] 2)) (T3.setTop (mkF m 9 #[.val (.ref a), .val (.ref b)] [])) := g3
  exact ⟨T3, none, _, _, _, X3, by simp, rfl, by omega, (fun _ => rfl), e0, fun fs hl => c4.trans (X3.returnOut hexec hret (hb hbytes d9) hl)⟩
theorem pays {l : Launch} {R : Room} {p : Program} {e : Env} {below : List Frame} {s : State} {sargs : Array Value} {len W : Nat} (a : Addr) (D : Cell) (fV fC : Field) (b : Addr) (A : Cell) (z : Int32) (htab : tab.before sargs s = true) (hfr : 4 ≤ R.frames) (hlo : W + 65 ≤ R.locals) :
    Back l R p e below s sargs yN len W (fun A₁ a₁ => A₁.cells + 1 ≤ R.cells ∧ A₁.slots + A.slots.size ≤ R.slots ∧ P a D fV fC b A z a₁ A₁.U) (fun A₁ _ v₁ B₁ => E a D fV fC A v₁ A₁.U B₁.U ∧ B₁.locs = A₁.locs ++ [⟨a, fC.slot⟩, ⟨a, fV.slot⟩] ∧ B₁.cells = A₁.cells + 1 ∧ B₁.slots = A₁.slots + A.slots.size) :=
  (law l a D fV fC b A z).pays htab hfr (by omega)
end New1
/-- the byte, read back as charAt reads it, is the char -/
theorem lo8_mask {x : Int32} (h0 : ¬ x < 0) (h1 : ¬ 255 < x) : lo8 x &&& 255 = x := by
  have t : ∀ k : Fin 256, lo8 (Int32.ofNat k.val) &&& 255 = Int32.ofNat k.val := by decide +kernel
  rw [Int32.lt_iff_toInt_lt] at h0 h1
  have e0 : (0 : Int32).toInt = 0 := rfl
  have e1 : (255 : Int32).toInt = 255 := rfl
  obtain ⟨k, hk⟩ : ∃ k : Nat, x.toInt = k := ⟨x.toInt.toNat, by omega⟩
  have hx : x = Int32.ofNat k := Int32.toInt_inj.mp (by rw [hk, Int32.toInt_ofNat_small (by omega)])
  rw [hx]
  exact t ⟨k, by omega⟩
end StrChars
namespace StrChars.Road
open Jvm Sem ClassFile Op Lib Jvm.Stand Jvm.Free Jvm.Free.XT
open Jvm.Lib.Cold (StaticIs)
abbrev ST : String := "java/lang/String"
/-- every table word that New1's law asks, flat -/
abbrev words : List Jvm.Cond := [.code New1.yN New1.yB 2 none, .initialized ST, .methodLink ST 27 New4.yN, .instanceMethod New4.yN,
  .code New4.yN New4.yB 6 none, .fieldLink ST 38 ST "COMPACT_STRINGS" "Z", .laysFinal ST ST "value" "[B", .fieldLink ST 9 ST "value" "[B", .laysFinal ST ST "coder" "B", .fieldLink ST 15 ST "coder" "B",
  .methodLink ST 1 Lib.objectInit, .instanceMethod Lib.objectInit, .code Lib.objectInit ⟨#[0xb1]⟩ 1 none, .methodLink ST 177 Cmp3.yN, .static Cmp3.yN, .methodLink ST 47 CodL.yN, .static CodL.yN,
  .code Cmp3.yN Cmp3.yB 6 (some (.array .byte)), .initialized U16, .arrayClass .byte, .methodLink U16 115 Cmp5.yN, .static Cmp5.yN, .code Cmp5.yN Cmp5.yB 7 (some .int), .code CodL.yN CodL.yB 2 (some .byte)]
theorem tab_of {a : Array Value} {s : State} (h : ∀ w ∈ words, w.before a s = true) : New1.tab.before a s = true := by
  have h5 : Cmp5.tab.before a s = true := unparts (wk h (.code Cmp5.yN Cmp5.yB 7 (some .int))) (wks h (.initialized Cmp5.yN.cls :: Cmp5.site))
  have hc : CodL.tab.before a s = true := unparts (wk h (.code CodL.yN CodL.yB 2 (some .byte))) (wks h (.initialized CodL.yN.cls :: CodL.site))
  have q5 : ∀ w ∈ Cmp5.tab :: words, w.before a s = true := fun w hw => (List.mem_cons.mp hw).elim (fun e => e ▸ h5) (h w)
  have h3 : Cmp3.tab.before a s = true := unparts (wk q5 (.code Cmp3.yN Cmp3.yB 6 (some (.array .byte)))) (wks q5 (.initialized Cmp3.yN.cls :: Cmp3.site))
  have q3 : ∀ w ∈ Cmp3.tab :: CodL.tab :: words, w.before a s = true := fun w hw => (List.mem_cons.mp hw).elim (fun e => e ▸ h3) fun hw => (List.mem_cons.mp hw).elim (fun e => e ▸ hc) (h w)
  have h4 : New4.tab.before a s = true := unparts (wk q3 (.code New4.yN New4.yB 6 none)) (wks q3 (.initialized New4.yN.cls :: New4.site))
  have q4 : ∀ w ∈ New4.tab :: words, w.before a s = true := fun w hw => (List.mem_cons.mp hw).elim (fun e => e ▸ h4) (h w)
  exact unparts (wk q4 (.code New1.yN New1.yB 2 none)) (wks q4 (.initialized New1.yN.cls :: New1.site))
/-- the words ride from the start Z to the walk's own state -/
theorem moved {Z s : State} {a0 args : Array Value} (hZ : Z.Warmed39 s.vm) (hw : ∀ d ∈ words, d.before a0 Z = true) : ∀ d ∈ words, d.before args s = true := fun d hd => by
  have q := hw d hd
  have t : ∀ d ∈ words, d = .arrayClass .byte ∨ (d.onTables && d.keepsFace) = true := by decide +kernel
  rcases t d hd with rfl | t
  · exact RoadKit.mvA hZ q
  · exact RoadKit.mv hZ q t
/-- WHAT COMES BACK, over the tables of the start Z: h the heap at the call, h' behind it -/
def Q (Z : State) (x : Addr) (A : Cell) (h : Heap) (v : Option Value) (h' : Heap) (L : List Loc) : Prop := v = none ∧ (∀ y ∈ L, y.base = x) ∧ RoadKit.Keep h h' [x] ∧ h'.size = h.size + 1 ∧ RoadKit.Exa Z h' x ST ∧ RoadKit.Fld Z h' x ST "value" "[B" (.ref h.size) ∧ RoadKit.Fld Z h' x ST "coder" "B" (.int 0) ∧
  (∃ V : Cell, RoadKit.Arr Z h' h.size V .byte ∧ V.vm = .none ∧ Z.vm.findClass "[B" = some V.cls ∧ V.slots.size = A.slots.size ∧ ∀ j, j < A.slots.size → V.slots[j]? = some (.int (lo8 (cv A j)))) ∧
  ∀ (O n d : String) (w : Value), RoadKit.Fld Z h x O n d w → RoadKit.slotOf Z O n d ≠ RoadKit.slotOf Z ST "value" "[B" → RoadKit.slotOf Z O n d ≠ RoadKit.slotOf Z ST "coder" "B" → RoadKit.Fld Z h' x O n d w
/-- **new String(chars) AT A CALL, IN THE ROAD'S FORM**: for specialBack behind newO: x the fresh String, b the char[] with the cell A -/
theorem back {p : Program} {l : Launch} {e : Env} {R : Room} {s : State} {args : Array Value} {below : List Frame} {len W : Nat} {Z : State} {a0 : Array Value} {h : Heap} (hZ : Z.Warmed39 s.vm) (hw : ∀ d ∈ words, d.before a0 Z = true) {kI : Nat} (wi : (Jvm.Cond.instantiable ST kI).before a0 Z = true)
    {x b : Addr} {A : Cell} {z : Int32} {v0 c0 : Value} (E : RoadKit.Exa Z h x ST) (V : RoadKit.Fld Z h x ST "value" "[B" v0) (C : RoadKit.Fld Z h x ST "coder" "B" c0) (K : RoadKit.Arr Z h b A .char) (hty : Typed .char A) (S : RoadKit.Sta Z h ST "COMPACT_STRINGS" "Z" (.int z)) (hz : ¬ z = 0)
    (l0 : 0 < A.slots.size) (l2 : A.slots.size ≤ 536870912) (hp : ∀ i, i < A.slots.size → ¬ 255 < cv A i) (hfr : 4 ≤ R.frames) (hlo : W + 65 ≤ R.locals) :
    Back l R p e below s args New1.yN len W (fun P a => a = #[.ref x, .ref b] ∧ P.U.heap = h ∧ P.cells + 1 ≤ R.cells ∧ P.slots + A.slots.size ≤ R.slots)
      (fun P _ v B => ∃ L, Q Z x A h v B.U.heap L ∧ B.locs = P.locs ++ L ∧ B.cells = P.cells + 1 ∧ B.slots = P.slots + A.slots.size) := by
  intro m meth c P g ig mk a X hg hsize hdg hW hn hp'
  obtain ⟨rfl, rfl, r1, r2⟩ := hp'
  have al : Z.vm.Alike P.U.vm := hZ.alike.trans X.warmed.alike
  obtain ⟨D, cfV, kV, iV, fV, hD, gV, stV, knV, obV, asV, slV⟩ := id V
  obtain ⟨D', cfC, kC, iC, fC, hD', gC, stC, -, -, asC, slC⟩ := id C
  cases hD.symm.trans hD'
  obtain ⟨D2, kD, e1, e2, e3, e4, e5⟩ := id E
  cases hD.symm.trans e1
  obtain ⟨c2, k2, i1, i2, i3, -⟩ := Cond.instantiable_spec wi
  cases e2.symm.trans i1
  cases e3.symm.trans i2
  obtain ⟨kU, u1, u2⟩ := al.2.2 _ _ e3
  have hB : Blank ST x D P.U := ⟨hD, ⟨knV, fun q hq => by rw [hq] at obV; cases obV⟩, by rw [al.findClass]; exact e2, kU, u1, by rw [u2]; exact i3, by rw [u2]; exact e5 i3⟩
  have F1 : Found ST "value" "[B" fV P.U := ⟨SBG.found_only al ⟨cfV, kV, iV, gV⟩, stV⟩
  have F2 : Found ST "coder" "B" fC P.U := ⟨SBG.found_only al ⟨cfC, kC, iC, gC⟩, stC⟩
  have hA : Ch b A P.U := ⟨⟨K.1, State.isArrayOf_alike al K.2.1, K.2.2, by omega⟩, hty⟩
  have hS : StaticIs P.U ST "COMPACT_STRINGS" "Z" (.int z) := by
    obtain ⟨cfS, iS, kS, fS, st, cS, t1, t2, t3, t4, t5, t6, t7⟩ := S
    exact StaticIs.there (s := { Z with heap := P.U.heap }) ⟨cfS, iS, kS, fS, st, cS, t1, t2, t3, t4, t5, (fun q => by rw [q] at t6; cases t6), t7⟩ al rfl
  obtain ⟨v, B, X', ⟨⟨hv, E', V', q1, q2, q3, q4, q5, q6, q7, q8, q9, q10, q11⟩, hl, hc, hs⟩, st⟩ := New1.pays x D fV fC b A z (tab_of (moved hZ hw)) hfr hlo m meth c P g ig mk _ X hg hsize hdg hW hn ⟨r1, r2, rfl, hB, F1, F2, hA, hS, hz, l0, l2, hp⟩
  have al' : Z.vm.Alike B.U.vm := hZ.alike.trans X'.warmed.alike
  have hsz : E'.slots.size = D.slots.size := by
    obtain ⟨-, -, -, kB, w1, w2, w3⟩ := q1
    obtain ⟨kB', y1, y2⟩ := al'.2.2 _ _ e3
    rw [q2.2.1] at w1
    cases w1.symm.trans y1
    rw [w3, e5 i3, y2]
  refine ⟨v, B, X', ⟨_, ⟨hv, ?_, ⟨by omega, fun y cy hy hn' => q10 y cy (by simpa using hn') hy, fun y cy hy => ?_⟩, q11, ⟨E', _, q1.1, by rw [q2.2.1]; exact e2, by rw [q2.2.1]; exact e3, by rw [q2.1]; exact obV, fun _ => by rw [hsz]; exact e5 i3⟩,
    ⟨E', cfV, kV, iV, fV, q1.1, gV, stV, by rw [q2.1]; exact knV, by rw [q2.1]; exact obV, by rw [q2.2.1]; exact asV, q3⟩, ⟨E', cfC, kC, iC, fC, q1.1, gC, stC, by rw [q2.1]; exact knV, by rw [q2.1]; exact obV, by rw [q2.2.1]; exact asC, q4⟩,
    ⟨V', ⟨q5.1, State.isArrayOf_alike al'.symm q5.2.1, q5.2.2.1⟩, q6, by rw [← al'.findClass]; exact q7, q8, fun j hj => by have := q9 j hj; rwa [Nat.zero_add] at this⟩, fun O n d w F n1 n2 => ?_⟩, hl, hc, hs⟩, st⟩
  · intro y hy
    simp only [List.mem_cons, List.not_mem_nil, or_false] at hy
    rcases hy with rfl | rfl <;> rfl
  · by_cases q : y = x
    · subst q
      cases hD.symm.trans hy
      exact ⟨E', q1.1, q2.2.1, q2.1, hsz⟩
    · exact ⟨cy, q10 y cy q hy, rfl, rfl, rfl⟩
  · obtain ⟨D3, cf, k, i, f, g1, g2, g3, g4, g5, g6, g7⟩ := F
    cases hD.symm.trans g1
    simp only [RoadKit.slotOf, g2, gV, gC, Option.map_some, Option.getD_some] at n1 n2
    exact ⟨E', cf, k, i, f, q1.1, g2, g3, by rw [q2.1]; exact g4, by rw [q2.1]; exact g5, by rw [q2.2.1]; exact g6, by rw [q2.2.2 f.slot (by simp [n1, n2])]; exact g7⟩
end StrChars.Road
namespace StrChars.Road
open Jvm Sem ClassFile Op Lib Jvm.Stand Jvm.Free Jvm.Free.XT
/-- WHAT COMES BACK, the byte[] as a list of values -/
def QA (Z : State) (x : Addr) (zn : Int32) (cs : List Int32) (h : Heap) (v : Option Value) (h' : Heap) (L : List Loc) : Prop := v = none ∧ (∀ y ∈ L, y.base = x) ∧ RoadKit.Keep h h' [x] ∧ h'.size = h.size + 1 ∧ RoadKit.Exa Z h' x ST ∧ RoadKit.Fld Z h' x ST "value" "[B" (.ref h.size) ∧ RoadKit.Fld Z h' x ST "coder" "B" (.int 0) ∧
  (∃ kb, Z.vm.findClass "[B" = some kb ∧ RoadKit.Arv Z h' h.size kb .byte zn (cs.map fun c => .int (lo8 c)) (.int 0)) ∧
  ∀ (O n d : String) (w : Value), RoadKit.Fld Z h x O n d w → RoadKit.slotOf Z O n d ≠ RoadKit.slotOf Z ST "value" "[B" → RoadKit.slotOf Z O n d ≠ RoadKit.slotOf Z ST "coder" "B" → RoadKit.Fld Z h' x O n d w
/-- **new String(chars) AT A CALL, THE ARRAYS AS LISTS**: the char[] at b holds cs, not empty, no char above 255 -/
theorem backArv {p : Program} {l : Launch} {e : Env} {R : Room} {s : State} {args : Array Value} {below : List Frame} {len W : Nat} {Z : State} {a0 : Array Value} {h : Heap} (hZ : Z.Warmed39 s.vm) (hw : ∀ d ∈ words, d.before a0 Z = true) {kI : Nat} (wi : (Jvm.Cond.instantiable ST kI).before a0 Z = true)
    {x b : Addr} {k : ClassId} {zn z : Int32} {cs : List Int32} {dv v0 c0 : Value} (E : RoadKit.Exa Z h x ST) (V : RoadKit.Fld Z h x ST "value" "[B" v0) (C : RoadKit.Fld Z h x ST "coder" "B" c0) (K : RoadKit.Arv Z h b k .char zn (cs.map Value.int) dv) (S : RoadKit.Sta Z h ST "COMPACT_STRINGS" "Z" (.int z)) (hz : ¬ z = 0)
    (hlen : zn.toNatClampNeg = cs.length) (h0 : 0 < cs.length) (hbig : cs.length ≤ 536870912) (hall : ∀ c ∈ cs, ¬ 255 < c) (hfr : 4 ≤ R.frames) (hlo : W + 65 ≤ R.locals) :
    Back l R p e below s args New1.yN len W (fun P a => a = #[.ref x, .ref b] ∧ P.U.heap = h ∧ P.cells + 1 ≤ R.cells ∧ P.slots + cs.length ≤ R.slots)
      (fun P _ v B => ∃ L, QA Z x zn cs h v B.U.heap L ∧ B.locs = P.locs ++ L ∧ B.cells = P.cells + 1 ∧ B.slots = P.slots + cs.length) := by
  obtain ⟨A, K1, K2, K3, K4, K5, K6⟩ := K
  have e : A.slots.size = cs.length := K3.trans hlen
  have hat : ∀ (i : Nat) (hi : i < cs.length), A.slots[i]? = some (.int cs[i]) := fun i hi => by rw [K5 i (by omega)]; simp [List.getD_eq_getElem?_getD, hi]
  have hcv : ∀ (i : Nat) (hi : i < cs.length), cv A i = cs[i] := fun i hi => by unfold cv; rw [hat i hi]
  have hty : Typed .char A := fun i v hv => by
    have hi : i < A.slots.size := (Array.getElem?_eq_some_iff.mp hv).1
    have q := K5 i hi
    rw [hv] at q
    rw [Option.some.inj q]
    exact K6 i hi
  refine Back.mono (back hZ hw wi E V C K1 hty S hz (by omega) (by omega) (fun i hi => by rw [hcv i (by omega)]; exact hall _ (List.getElem_mem _)) hfr hlo) (fun P a hp => ⟨hp.1, hp.2.1, hp.2.2.1, by rw [e]; exact hp.2.2.2⟩) (fun P a v B hp hq => ?_)
  obtain ⟨L, ⟨q1, q2, q3, q4, q5, q6, q7, ⟨V', v1, v2, v3, v4, v5⟩, q9⟩, hl, hc, hs⟩ := hq
  refine ⟨L, ⟨q1, q2, q3, q4, q5, q6, q7, ⟨V'.cls, v3, V', v1, rfl, by rw [v4, e, hlen], K4, fun i hi => ?_, fun i hi => ?_⟩, q9⟩, hl, hc, by rw [hs, e]⟩
  · have hi' : i < cs.length := by omega
    rw [v5 i (by omega), hcv i hi']; simp [List.getD_eq_getElem?_getD, hi']
  · have hi' : i < cs.length := by omega
    simp only [List.getD_eq_getElem?_getD, List.getElem?_map, List.getElem?_eq_getElem hi', Option.map_some, Option.getD_some]
    exact fits_lo8 _
end StrChars.Road
namespace StrChars.Road
open Jvm Sem ClassFile Op Lib Jvm.Stand Jvm.Free Jvm.Free.XT
/-- WHAT COMES BACK, in the writer's own shape -/
def QV (Z : State) (x : Addr) (N : Int32) (bs : List Int32) (h : Heap) (n0 : Nat) (v : Option Value) (h' : Heap) (L : List Loc) : Prop := v = none ∧ RoadKit.Fr n0 L ∧ RoadKit.Keep h h' [x] ∧ RoadKit.Exa Z h' x ST ∧ RoadKit.Fld Z h' x ST "coder" "B" (.int 0) ∧
  ∃ (t : Addr) (kb : ClassId), n0 ≤ t ∧ h.size ≤ t ∧ ¬ t = x ∧ RoadKit.Fld Z h' x ST "value" "[B" (.ref t) ∧ RoadKit.Arv Z h' t kb .byte N (bs.map Value.int) (.int 0)
/-- **new String(chars) AT A CALL, FOR THE WRITER**: a char[] of n known ints, each 0 to 255 -/
theorem backV {p : Program} {l : Launch} {e : Env} {R : Room} {s : State} {args : Array Value} {below : List Frame} {len W : Nat} {Z : State} {a0 : Array Value} {h : Heap} (hZ : Z.Warmed39 s.vm) (hw : ∀ d ∈ words, d.before a0 Z = true) {kI : Nat} (wi : (Jvm.Cond.instantiable ST kI).before a0 Z = true)
    {x b : Addr} {kC : ClassId} {cs bs : List Int32} {d v0 c0 : Value} {z N : Int32} {n n0 : Nat} (hx0 : n0 ≤ x) (hh0 : n0 ≤ h.size) (E : RoadKit.Exa Z h x ST) (V : RoadKit.Fld Z h x ST "value" "[B" v0) (C : RoadKit.Fld Z h x ST "coder" "B" c0) (K : RoadKit.Arv Z h b kC .char N (cs.map Value.int) d) (S : RoadKit.Sta Z h ST "COMPACT_STRINGS" "Z" (.int z)) (hz : ¬ z = 0)
    (hn : cs.length = n) (hN : N = Int32.ofNat n) (l0 : 0 < n) (l2 : n ≤ 4000) (hp : ∀ c ∈ cs, ¬ c < 0 ∧ ¬ (255 : Int32) < c) (hb : bs = cs.map (fun c => c.toInt8.toInt32)) (hfr : 4 ≤ R.frames) (hlo : W + 65 ≤ R.locals) :
    Back l R p e below s args (⟨"java/lang/String", "<init>", "([C)V"⟩ : MethodName) len W (fun P a => a = #[.ref x, .ref b] ∧ P.U.heap = h ∧ P.cells + 1 ≤ R.cells ∧ P.slots + n ≤ R.slots)
      (fun P _ v B => ∃ L, QV Z x N bs h n0 v B.U.heap L ∧ B.locs = P.locs ++ L ∧ B.cells = P.cells + 1 ∧ B.slots = P.slots + n) := by
  subst hn hN hb
  refine Back.mono (backArv hZ hw wi E V C K S hz (n32 (by omega)) l0 (by omega) (fun c hc => (hp c hc).2) hfr hlo) (fun P a hp => hp) (fun P a v B hp hq => ?_)
  obtain ⟨L, ⟨q1, q2, q3, q4, q5, q6, q7, ⟨kb, v1, v2⟩, q9⟩, hl, hc, hs⟩ := hq
  exact ⟨L, ⟨q1, fun y hy => by rw [q2 y hy]; exact hx0, q3, q5, q7, h.size, kb, hh0, Nat.le_refl _, Nat.ne_of_gt E.lt, q6, by rw [List.map_map]; exact v2⟩, hl, hc, hs⟩
end StrChars.Road
namespace StrChars
open Jvm Sem ClassFile Op Lib Jvm.Stand Jvm.Free.XT Jvm.Free.ALB Jvm.Free.JM Jvm.Free
open Jvm.Lib.Cold (StaticIs)
def hi8 (x : Int32) : Int32 := lo8 (x >>> ((8 : Int32) &&& 31))
/-- what StringUTF16.getChar makes of two bytes -/
def pairCh (u v : Int32) : Int32 := (((u &&& 255) <<< ((0 : Int32) &&& 31)) ||| ((v &&& 255) <<< ((8 : Int32) &&& 31))).toUInt32.toUInt16.toUInt32.toInt32
theorem shr0 (c : Int32) : c >>> ((0 : Int32) &&& 31) = c := by
  have e : ((0 : Int32) &&& 31) = 0 := by decide
  rw [e]
  apply Int32.toBitVec_inj.mp
  rw [Int32.toBitVec_shiftRight]
  have e1 : ((0 : Int32).toBitVec.smod 32) = 0#32 := by decide
  rw [e1, BitVec.sshiftRight_eq']
  exact BitVec.sshiftRight_zero
theorem lo8_and (x : Int32) : (lo8 x &&& 255).toBitVec.toNat = x.toBitVec.toNat % 256 := by
  have h : (lo8 x).toBitVec = (x.toBitVec.signExtend 8).signExtend 32 := by rw [lo8, Int8.toBitVec_toInt32, Int32.toBitVec_toInt8]
  rw [Int32.toBitVec_and, BitVec.toNat_and, h]
  have e : ((x.toBitVec.signExtend 8).signExtend 32).toNat % 256 = x.toBitVec.toNat % 256 := by
    rw [BitVec.toNat_signExtend]
    have hlt := x.toBitVec.isLt
    simp only [BitVec.toNat_setWidth, BitVec.toNat_signExtend]
    split <;> split <;> omega
  rw [← e]
  exact Nat.and_two_pow_sub_one_eq_mod _ 8
theorem pair_says {c : Int32} (h0 : ¬ c < 0) (h1 : ¬ 65535 < c) : pairCh (lo8 c) (hi8 c) = c := by
  rw [Int32.lt_iff_toInt_lt] at h0 h1
  have e0 : (0 : Int32).toInt = 0 := rfl
  have e1 : (65535 : Int32).toInt = 65535 := rfl
  have hc : c.toInt = c.toBitVec.toNat := by
    have := c.toBitVec.isLt
    have e : c.toInt = c.toBitVec.toInt := rfl
    rw [e] at h0 h1
    rw [e]
    rw [BitVec.toInt_eq_toNat_cond] at h0 h1 ⊢
    split at h0 <;> split <;> omega
  have hn : c.toBitVec.toNat < 65536 := by omega
  have a1 := lo8_and c
  have a2 : (hi8 c &&& 255).toBitVec.toNat = c.toBitVec.toNat / 256 := by
    rw [hi8, lo8_and]
    have e : ((8 : Int32) &&& 31) = 8 := by decide
    rw [e, Int32.toBitVec_shiftRight]
    have e2 : ((8 : Int32).toBitVec.smod 32) = 8#32 := by decide
    rw [e2, BitVec.sshiftRight_eq', BitVec.toNat_sshiftRight_of_msb_false (by rw [BitVec.msb_eq_false_iff_two_mul_lt]; omega)]
    show c.toBitVec.toNat >>> 8 % 256 = _
    rw [Nat.shiftRight_eq_div_pow]
    omega
  unfold pairCh
  apply Int32.toBitVec_inj.mp
  apply BitVec.eq_of_toNat_eq
  have f0 : ((0 : Int32) &&& 31) = 0 := by decide
  have f8 : ((8 : Int32) &&& 31) = 8 := by decide
  rw [f0, f8]
  have g : (((lo8 c &&& 255) <<< (0 : Int32)) ||| ((hi8 c &&& 255) <<< (8 : Int32))).toBitVec.toNat = c.toBitVec.toNat := by
    rw [Int32.toBitVec_or, Int32.toBitVec_shiftLeft, Int32.toBitVec_shiftLeft]
    have s0 : ((0 : Int32).toBitVec.smod 32) = 0#32 := by decide
    have s8 : ((8 : Int32).toBitVec.smod 32) = 8#32 := by decide
    rw [s0, s8, BitVec.toNat_or]
    simp only [BitVec.shiftLeft_eq', BitVec.toNat_shiftLeft, a1, a2]
    show (c.toBitVec.toNat % 256) <<< 0 % 2 ^ 32 ||| (c.toBitVec.toNat / 256) <<< 8 % 2 ^ 32 = _
    rw [Nat.shiftLeft_zero, Nat.mod_eq_of_lt (show c.toBitVec.toNat % 256 < 2 ^ 32 by omega), Nat.mod_eq_of_lt (show (c.toBitVec.toNat / 256) <<< 8 < 2 ^ 32 by rw [Nat.shiftLeft_eq]; omega), Nat.or_comm, ← Nat.shiftLeft_add_eq_or_of_lt (by omega), Nat.shiftLeft_eq]
    omega
  show BitVec.toNat (((((lo8 c &&& 255) <<< (0 : Int32)) ||| ((hi8 c &&& 255) <<< (8 : Int32))).toBitVec.setWidth 16).setWidth 32) = _
  rw [BitVec.toNat_setWidth, BitVec.toNat_setWidth, g]
  omega
end StrChars
namespace StrChars
open Jvm Sem ClassFile Op Lib Jvm.Stand Jvm.Free.XT Jvm.Free.ALB Jvm.Free.JM Jvm.Free
open Jvm.Lib.Cold (StaticIs)
theorem narrow_ch {c : Int32} (h0 : ¬ c < 0) (h1 : ¬ 65535 < c) : narrow .char (.int c) = .int c := by
  have q : narrow .char (.int (pairCh (lo8 c) (hi8 c))) = .int (pairCh (lo8 c) (hi8 c)) := narrow_c _
  rwa [pair_says h0 h1] at q
/-- the array's cell V codes the n chars f 0 .. f (n - 1) by the coder cd, as the JDK does: coder 1 just where some char is above 255 -/
def Cod (cd : Int32) (n : Nat) (f : Nat → Int32) (V : Cell) : Prop := (cd = 0 ∧ V.slots.size = n ∧ ∀ j, j < n → V.slots[j]? = some (.int (lo8 (f j))) ∧ ¬ 255 < f j) ∨ (cd = 1 ∧ V.slots.size = 2 * n ∧ (∀ j, j < n → V.slots[2 * j]? = some (.int (lo8 (f j))) ∧ V.slots[2 * j + 1]? = some (.int (hi8 (f j)))) ∧ ∃ j, j < n ∧ 255 < f j)
/-- **x is a String of the n chars f 0 .. f (n - 1)**, Latin-1 or UTF-16; its array at t has the cell V -/
def Txt (x t : Addr) (V : Cell) (cd : Int32) (n : Nat) (f : Nat → Int32) (U : State) : Prop := Exact "java/lang/String" x U ∧ Has x "java/lang/String" "value" "[B" (.ref t) U ∧ Has x "java/lang/String" "coder" "B" (.int cd) U ∧ XT.Arr .byte t V U ∧ Cod cd n f V ∧ ∀ j, j < n → ¬ f j < 0 ∧ ¬ 65535 < f j
theorem Txt.mv {x t : Addr} {V : Cell} {cd : Int32} {n : Nat} {f : Nat → Int32} {U U' : State} (h : Txt x t V cd n f U) (hal : U.vm.Alike U'.vm) (hh : U'.heap = U.heap) : Txt x t V cd n f U' := ⟨h.1.mv hal hh, h.2.1.mv hal hh, h.2.2.1.mv hal hh, h.2.2.2.1.mv hal hh, h.2.2.2.2⟩
end StrChars
namespace StrChars.Road
open Jvm Sem ClassFile Op Lib Jvm.Stand Jvm.Free Jvm.Free.XT
open Jvm.Lib.Cold (StaticIs)
theorem consq {a : Array Value} {s : State} {c : Jvm.Cond} {L : List Jvm.Cond} (h0 : c.before a s = true) (h : ∀ w ∈ L, w.before a s = true) : ∀ w ∈ c :: L, w.before a s = true := fun w hw => (List.mem_cons.mp hw).elim (fun e => e ▸ h0) (h w)
/-- the bytes of the chars cs, low before high -/
def wideBytes : List Int32 → List Value
  | [] => []
  | c :: cs => .int (lo8 c) :: .int (hi8 c) :: wideBytes cs
theorem wide_lo (d : Value) : ∀ (cs : List Int32) (j : Nat), j < cs.length → (wideBytes cs).getD (2 * j) d = .int (lo8 (cs.getD j 0))
  | [], j, h => absurd h (Nat.not_lt_zero j)
  | c :: cs, 0, _ => rfl
  | c :: cs, j + 1, h => by
    have q := wide_lo d cs j (by simpa using h)
    rw [show 2 * (j + 1) = 2 * j + 1 + 1 from by omega]
    simpa [wideBytes] using q
theorem wide_hi (d : Value) : ∀ (cs : List Int32) (j : Nat), j < cs.length → (wideBytes cs).getD (2 * j + 1) d = .int (hi8 (cs.getD j 0))
  | [], j, h => absurd h (Nat.not_lt_zero j)
  | c :: cs, 0, _ => rfl
  | c :: cs, j + 1, h => by
    have q := wide_hi d cs j (by simpa using h)
    rw [show 2 * (j + 1) + 1 = 2 * j + 1 + 1 + 1 from by omega]
    simpa [wideBytes] using q
theorem low_at (d : Value) (cs : List Int32) (j : Nat) (h : j < cs.length) : (cs.map fun c => Value.int (lo8 c)).getD j d = .int (lo8 (cs.getD j 0)) := by
  simp [List.getD_eq_getElem?_getD, h]
/-- an array of N2 bytes vs codes the chars cs by the coder cd -/
def CodA (cs : List Int32) (cd N2 : Int32) (vs : List Value) : Prop := (cd = 0 ∧ N2 = Int32.ofNat cs.length ∧ vs = (cs.map fun c => Value.int (lo8 c)) ∧ ∀ c ∈ cs, ¬ 255 < c) ∨ (cd = 1 ∧ N2 = Int32.ofNat (2 * cs.length) ∧ vs = wideBytes cs ∧ ∃ c ∈ cs, 255 < c)
theorem CodA.cod {cs : List Int32} {cd N2 : Int32} {vs : List Value} {V : Cell} (h : CodA cs cd N2 vs) (hn : 2 * cs.length < 2 ^ 31) (hs : V.slots.size = N2.toNatClampNeg) (hv : RoadKit.Has V vs (.int 0)) : Cod cd cs.length (fun j => cs.getD j 0) V := by
  rcases h with ⟨rfl, rfl, rfl, h⟩ | ⟨rfl, rfl, rfl, c, hc, hw⟩
  · rw [n32 (by omega)] at hs
    exact Or.inl ⟨rfl, hs, fun j hj => ⟨by rw [hv j (by omega), low_at _ _ _ hj], by
      have e : cs.getD j 0 = cs[j] := by simp [List.getD_eq_getElem?_getD, hj]
      show ¬ 255 < cs.getD j 0
      rw [e]; exact h _ (List.getElem_mem _)⟩⟩
  · rw [n32 (by omega)] at hs
    obtain ⟨j, hj, rfl⟩ := List.getElem_of_mem hc
    exact Or.inr ⟨rfl, hs, fun j hj => ⟨by rw [hv _ (by omega), wide_lo _ _ _ hj], by rw [hv _ (by omega), wide_hi _ _ _ hj]⟩, j, hj, by
      have e : cs.getD j 0 = cs[j] := by simp [List.getD_eq_getElem?_getD, hj]
      show 255 < cs.getD j 0
      rw [e]; exact hw⟩
/-- an object of exactly java/lang/String, its two fields found: as the laws ask it -/
theorem strObj {Z U : State} {a0 : Array Value} {kI : Nat} (wi : (Jvm.Cond.instantiable ST kI).before a0 Z = true) (al : Z.vm.Alike U.vm) {x : Addr} {v0 c0 : Value} (E : RoadKit.Exa Z U.heap x ST) (V : RoadKit.Fld Z U.heap x ST "value" "[B" v0) (C : RoadKit.Fld Z U.heap x ST "coder" "B" c0) :
    ∃ (D : Cell) (fV fC : Field), Blank ST x D U ∧ Found ST "value" "[B" fV U ∧ Found ST "coder" "B" fC U ∧ D.slots[fV.slot]? = some v0 ∧ D.slots[fC.slot]? = some c0 ∧ RoadKit.slotOf Z ST "value" "[B" = fV.slot ∧ RoadKit.slotOf Z ST "coder" "B" = fC.slot := by
  obtain ⟨D, cfV, kV, iV, fV, hD, gV, stV, knV, obV, asV, slV⟩ := V
  obtain ⟨D', cfC, kC, iC, fC, hD', gC, stC, -, -, asC, slC⟩ := C
  cases hD.symm.trans hD'
  obtain ⟨D2, kD, e1, e2, e3, e4, e5⟩ := E
  cases hD.symm.trans e1
  obtain ⟨c2, k2, i1, i2, i3, -⟩ := Cond.instantiable_spec wi
  cases e2.symm.trans i1
  cases e3.symm.trans i2
  obtain ⟨kU, u1, u2⟩ := al.2.2 _ _ e3
  exact ⟨D, fV, fC, ⟨hD, ⟨knV, fun q hq => by rw [hq] at obV; cases obV⟩, by rw [al.findClass]; exact e2, kU, u1, by rw [u2]; exact i3, by rw [u2]; exact e5 i3⟩, ⟨SBG.found_only al ⟨cfV, kV, iV, gV⟩, stV⟩, ⟨SBG.found_only al ⟨cfC, kC, iC, gC⟩, stC⟩, slV, slC, by simp [RoadKit.slotOf, gV], by simp [RoadKit.slotOf, gC]⟩
theorem sta_is {Z U : State} (al : Z.vm.Alike U.vm) {C n d : String} {v : Value} (S : RoadKit.Sta Z U.heap C n d v) : StaticIs U C n d v := by
  obtain ⟨cfS, iS, kS, fS, st, cS, t1, t2, t3, t4, t5, t6, t7⟩ := S
  exact StaticIs.there (s := { Z with heap := U.heap }) ⟨cfS, iS, kS, fS, st, cS, t1, t2, t3, t4, t5, (fun q => by rw [q] at t6; cases t6), t7⟩ al rfl
end StrChars.Road
namespace StrChars
open Jvm Sem ClassFile Op Lib Jvm.Stand Jvm.Free.XT Jvm.Free.ALB Jvm.Free.JM Jvm.Free
open Jvm.Lib.Cold (StaticIs)
/-- what place i of a byte[]'s cell holds -/
def yv (A : Cell) (i : Nat) : Int32 := match A.slots[i]? with | some (.int x) => x | _ => 0
theorem yv_get {a : Addr} {A : Cell} {U : State} (h : XT.Arr .byte a A U) (ht : Typed .byte A) {i : Nat} (hi : i < A.slots.size) : A.slots[i]? = some (.int (yv A i)) := by
  have e := Array.getElem?_eq_getElem hi
  have f := ht i _ e
  unfold yv; rw [e]
  generalize A.slots[i] = v at f
  cases v <;> simp [fits] at f ⊢
/-- the two arrays are equal, place for place -/
def EqC (A B : Cell) : Prop := A.slots.size = B.slots.size ∧ ∀ i, i < A.slots.size → yv A i = yv B i
/-- a boolean that says whether p -/
def Says01 (q : Prop) (r : Option Value) (s u : State) : Prop := ∃ v : Int32, r = some (.int v) ∧ u.heap = s.heap ∧ ((v = 1 ∧ q) ∨ (v = 0 ∧ ¬ q))
theorem Says01.mv {q : Prop} : ∀ r (U U' V V' : State), U'.heap = U.heap → V.vm.Alike V'.vm → V'.heap = V.heap → Says01 q r U V → Says01 q r U' V' :=
  fun r U U' V V' h1 _ h2 ⟨v, a, b, c⟩ => ⟨v, a, by rw [h1, h2]; exact b, c⟩
namespace LEq
def yN : MethodName := ⟨"java/lang/StringLatin1", "equals", "([B[B)Z"⟩
abbrev yB : ByteArray := jdk_43_method_13_code
theorem d0 : decode yB 0 = .ok (.aload_n 0, 1) := by decide +kernel
theorem d1 : decode yB 1 = .ok (.arraylength, 1) := by decide +kernel
theorem d2 : decode yB 2 = .ok (.aload_n 1, 1) := by decide +kernel
theorem d3 : decode yB 3 = .ok (.arraylength, 1) := by decide +kernel
theorem d4 : decode yB 4 = .ok (.if_icmp (.ne) 30, 3) := by decide +kernel
theorem d7 : decode yB 7 = .ok (.iconst 0, 1) := by decide +kernel
theorem d8 : decode yB 8 = .ok (.istore_n 2, 1) := by decide +kernel
theorem d9 : decode yB 9 = .ok (.iload_n 2, 1) := by decide +kernel
theorem d10 : decode yB 10 = .ok (.aload_n 0, 1) := by decide +kernel
theorem d11 : decode yB 11 = .ok (.arraylength, 1) := by decide +kernel
theorem d12 : decode yB 12 = .ok (.if_icmp (.ge) 20, 3) := by decide +kernel
theorem d15 : decode yB 15 = .ok (.aload_n 0, 1) := by decide +kernel
theorem d16 : decode yB 16 = .ok (.iload_n 2, 1) := by decide +kernel
theorem d17 : decode yB 17 = .ok (.baload, 1) := by decide +kernel
theorem d18 : decode yB 18 = .ok (.aload_n 1, 1) := by decide +kernel
theorem d19 : decode yB 19 = .ok (.iload_n 2, 1) := by decide +kernel
theorem d20 : decode yB 20 = .ok (.baload, 1) := by decide +kernel
theorem d21 : decode yB 21 = .ok (.if_icmp (.eq) 5, 3) := by decide +kernel
theorem d24 : decode yB 24 = .ok (.iconst 0, 1) := by decide +kernel
theorem d25 : decode yB 25 = .ok (.ireturn, 1) := by decide +kernel
theorem d26 : decode yB 26 = .ok (.iinc 2 1, 3) := by decide +kernel
theorem d29 : decode yB 29 = .ok (.goto (-20), 3) := by decide +kernel
theorem d32 : decode yB 32 = .ok (.iconst 1, 1) := by decide +kernel
theorem d33 : decode yB 33 = .ok (.ireturn, 1) := by decide +kernel
theorem d34 : decode yB 34 = .ok (.iconst 0, 1) := by decide +kernel
theorem d35 : decode yB 35 = .ok (.ireturn, 1) := by decide +kernel
def site : List Cond := []
def tab : Cond := tabOf yN yB 3 (some .boolean) site
def P (a : Addr) (A : Cell) (b : Addr) (B : Cell) (args : Array Value) (s : State) : Prop := args = #[.ref a, .ref b] ∧ XT.Arr .byte a A s ∧ Typed .byte A ∧ XT.Arr .byte b B s ∧ Typed .byte B
/-- whether two byte[] are equal, place for place -/
theorem law (l : Launch) (a : Addr) (A : Cell) (b : Addr) (B : Cell) : Law l yN 2 2 0 0 yB 3 (some .boolean) site (P a A b B) (Says01 (EqC A B)) [] 0 0 := by
  refine Law.of_walk (plainFor_of_name (by decide +kernel)) (by decide +kernel) (by decide +kernel) (by decide) (fun _ _ h => by rw [h.1]; rfl) (fun _ U U' hal hh h => ⟨h.1, h.2.1.mv hal hh, h.2.2.1, h.2.2.2.1.mv hal hh, h.2.2.2.2⟩) (fun r U U' V V' h1 hal h2 h => Says01.mv r U U' V V' h1 hal h2 h) ?_
  intro p e s m args below meth c s₁ X0 hexec hbytes hml hret hlk hnm hown hh0 W hP
  obtain ⟨rfl, hA, tA, hB, tB⟩ := hP
  have a31 := hA.2.2.2
  have b31 := hB.2.2.2
  have hA0 := hA.mv X0.warmed.alike hh0
  have hB0 := hB.mv X0.warmed.alike hh0
  have c1 : Steps p.tables e below (s₁.setTop (entryFrame m #[.ref a, .ref b] 3)) (s₁.setTop (mkF m 0 #[.val (.ref a), .val (.ref b), .unset] [])) := entry rfl
  have c2 : Steps p.tables e below (s₁.setTop (entryFrame m #[.ref a, .ref b] 3)) (s₁.setTop (mkF m 4 #[.val (.ref a), .val (.ref b), .unset] [.int (Int32.ofNat B.slots.size), .int (Int32.ofNat A.slots.size)])) := c1.trans (by
    refine XS.aloadN X0.here hexec rfl (hb hbytes d0) rfl rfl ?_
    refine X0.alen hexec hA0 rfl rfl (hb hbytes d1) ?_
    refine XS.aloadN X0.here hexec rfl (hb hbytes d2) rfl rfl ?_
    refine X0.alen hexec hB0 rfl rfl (hb hbytes d3) ?_
    exact Steps.refl _)
  by_cases hs : A.slots.size = B.slots.size
  · have c3 : Steps p.tables e below (s₁.setTop (entryFrame m #[.ref a, .ref b] 3)) (s₁.setTop (mkF m 9 #[.val (.ref a), .val (.ref b), .val (.int 0)] [])) := c2.trans (by
      refine XS.icmpNo X0.here hexec rfl (hb hbytes d4) rfl (ii_ne_f (by rw [hs])) ?_
      refine iconstV X0.here hexec rfl 0 (hb hbytes d7) (by decide) ?_
      refine XS.istoreN X0.here hexec rfl (hb hbytes d8) rfl rfl ?_
      exact Steps.refl _)
    have loop : ∀ (r i : Nat), i + r = A.slots.size → (∀ j, j < i → yv A j = yv B j) → Steps p.tables e below (s₁.setTop (entryFrame m #[.ref a, .ref b] 3)) (s₁.setTop (mkF m 9 #[.val (.ref a), .val (.ref b), .val (.int (Int32.ofNat i))] [])) → ∃ (pc : Nat) (Ls : Array Slot) (v : Int32), (pc = 25 ∨ pc = 33) ∧ ((v = 1 ∧ EqC A B) ∨ (v = 0 ∧ ¬ EqC A B)) ∧ Steps p.tables e below (s₁.setTop (entryFrame m #[.ref a, .ref b] 3)) (s₁.setTop (mkF m pc Ls [.int v])) := by
      intro r
      induction r with
      | zero =>
        intro i hi he cl
        exact ⟨33, _, 1, Or.inr rfl, Or.inl ⟨rfl, hs, fun j hj => he j (by omega)⟩, cl.trans (by
          refine XS.iloadN X0.here hexec rfl (hb hbytes d9) rfl ?_
          refine XS.aloadN X0.here hexec rfl (hb hbytes d10) rfl rfl ?_
          refine X0.alen hexec hA0 rfl rfl (hb hbytes d11) ?_
          refine XS.icmpYes X0.here hexec rfl (pc0 := 12) rfl (hb hbytes d12) rfl (ii_ge_t (nlt32 (by omega) (by omega))) (by decide) rfl ?_
          refine iconstV X0.here hexec rfl 1 (hb hbytes d32) (by decide) ?_
          exact Steps.refl _)⟩
      | succ r ih =>
        intro i hi he cl
        have c4 : Steps p.tables e below (s₁.setTop (entryFrame m #[.ref a, .ref b] 3)) (s₁.setTop (mkF m 21 #[.val (.ref a), .val (.ref b), .val (.int (Int32.ofNat i))] [.int (yv B i), .int (yv A i)])) := cl.trans (by
          refine XS.iloadN X0.here hexec rfl (hb hbytes d9) rfl ?_
          refine XS.aloadN X0.here hexec rfl (hb hbytes d10) rfl rfl ?_
          refine X0.alen hexec hA0 rfl rfl (hb hbytes d11) ?_
          refine XS.icmpNo X0.here hexec rfl (hb hbytes d12) rfl (ii_ge_f (lt32 (by omega) (by omega))) ?_
          refine XS.aloadN X0.here hexec rfl (hb hbytes d15) rfl rfl ?_
          refine XS.iloadN X0.here hexec rfl (hb hbytes d16) rfl ?_
          refine X0.aget hexec hA0 rfl (yv_get hA tA (i := i) (by omega)) rfl rfl (hb hbytes d17) ?_
          refine XS.aloadN X0.here hexec rfl (hb hbytes d18) rfl rfl ?_
          refine XS.iloadN X0.here hexec rfl (hb hbytes d19) rfl ?_
          refine X0.aget hexec hB0 rfl (yv_get hB tB (i := i) (by omega)) rfl rfl (hb hbytes d20) ?_
          exact Steps.refl _)
        by_cases hv : yv A i = yv B i
        · have c5 : Steps p.tables e below (s₁.setTop (entryFrame m #[.ref a, .ref b] 3)) (s₁.setTop (mkF m 9 #[.val (.ref a), .val (.ref b), .val (.int (Int32.ofNat i + 1))] [])) := c4.trans (by
            refine XS.icmpYes X0.here hexec rfl (pc0 := 21) rfl (hb hbytes d21) rfl (ii_eq_t hv) (by decide) rfl ?_
            refine iincV X0.here hexec rfl 1 (hb hbytes d26) (by decide) rfl rfl ?_
            refine XS.goto X0.here hexec rfl (pc0 := 29) rfl (hb hbytes d29) (by decide) rfl ?_
            exact Steps.refl _)
          rw [succ32] at c5
          exact ih (i + 1) (by omega) (fun j hj => by
            by_cases e : j = i
            · rw [e]; exact hv
            · exact he j (by omega)) c5
        · exact ⟨25, _, 0, Or.inl rfl, Or.inr ⟨rfl, fun q => hv (q.2 i (by omega))⟩, c4.trans (by
            refine XS.icmpNo X0.here hexec rfl (hb hbytes d21) rfl (ii_eq_f hv) ?_
            refine iconstV X0.here hexec rfl 0 (hb hbytes d24) (by decide) ?_
            exact Steps.refl _)⟩
    obtain ⟨pc, Ls, v, hpc, hv, cz⟩ := loop A.slots.size 0 (by omega) (fun j hj => absurd hj (Nat.not_lt_zero j)) c3
    have nv : narrow .boolean (.int v) = .int v := by rcases hv with ⟨rfl, -⟩ | ⟨rfl, -⟩ <;> rfl
    rcases hpc with rfl | rfl
    · exact ⟨s₁, some (.int v), _, _, _, X0, rfl, rfl, rfl, (fun h => by cases h), ⟨v, rfl, hh0, hv⟩, fun fs hl => cz.trans (X0.ireturnOut hexec hret nv (Or.inr (Or.inl rfl)) (hb hbytes d25) hl)⟩
    · exact ⟨s₁, some (.int v), _, _, _, X0, rfl, rfl, rfl, (fun h => by cases h), ⟨v, rfl, hh0, hv⟩, fun fs hl => cz.trans (X0.ireturnOut hexec hret nv (Or.inr (Or.inl rfl)) (hb hbytes d33) hl)⟩
  · have c3 : Steps p.tables e below (s₁.setTop (entryFrame m #[.ref a, .ref b] 3)) (s₁.setTop (mkF m 35 #[.val (.ref a), .val (.ref b), .unset] [.int 0])) := c2.trans (by
      refine XS.icmpYes X0.here hexec rfl (pc0 := 4) rfl (hb hbytes d4) rfl (ii_ne_t (ne32 a31 b31 hs)) (by decide) rfl ?_
      refine iconstV X0.here hexec rfl 0 (hb hbytes d34) (by decide) ?_
      exact Steps.refl _)
    exact ⟨s₁, some (.int 0), _, _, _, X0, rfl, rfl, rfl, (fun h => by cases h), ⟨0, rfl, hh0, Or.inr ⟨rfl, fun q => hs q.1⟩⟩, fun fs hl => c3.trans (X0.ireturnOut hexec hret rfl (Or.inr (Or.inl rfl)) (hb hbytes d35) hl)⟩
end LEq
theorem Cod.ty {cd : Int32} {n : Nat} {f : Nat → Int32} {V : Cell} (h : Cod cd n f V) : Typed .byte V := fun i v hv => by
  have hi : i < V.slots.size := (Array.getElem?_eq_some_iff.mp hv).1
  rcases h with ⟨-, k1, k2⟩ | ⟨-, k1, k2, -⟩
  · rw [(k2 i (by omega)).1] at hv; cases hv; exact fits_lo8 _
  · rcases Nat.mod_two_eq_zero_or_one i with e | e
    · obtain ⟨j, rfl⟩ : ∃ j, i = 2 * j := ⟨i / 2, by omega⟩
      rw [(k2 j (by omega)).1] at hv; cases hv; exact fits_lo8 _
    · obtain ⟨j, rfl⟩ : ∃ j, i = 2 * j + 1 := ⟨i / 2, by omega⟩
      rw [(k2 j (by omega)).2] at hv; cases hv; exact fits_lo8 _
/-- the same text -/
def SameT (n : Nat) (f : Nat → Int32) (k : Nat) (g : Nat → Int32) : Prop := n = k ∧ ∀ j, j < n → f j = g j
theorem lo8_inj {x y : Int32} (h0 : ¬ x < 0) (h1 : ¬ 255 < x) (k0 : ¬ y < 0) (k1 : ¬ 255 < y) (h : lo8 x = lo8 y) : x = y := by
  rw [← lo8_mask h0 h1, ← lo8_mask k0 k1, h]
/-- arrays coded by one coder are equal just where the texts are -/
theorem Cod.eqv {cd : Int32} {n k : Nat} {f g : Nat → Int32} {V V' : Cell} (h : Cod cd n f V) (h' : Cod cd k g V') (hf : ∀ j, j < n → ¬ f j < 0 ∧ ¬ 65535 < f j) (hg : ∀ j, j < k → ¬ g j < 0 ∧ ¬ 65535 < g j) : EqC V V' ↔ SameT n f k g := by
  have yvv : ∀ {W : Cell} {i : Nat} {x : Int32}, W.slots[i]? = some (.int x) → yv W i = x := fun q => by unfold yv; rw [q]
  rcases h with ⟨rfl, k1, k2⟩ | ⟨rfl, k1, k2, -⟩
  · rcases h' with ⟨-, m1, m2⟩ | ⟨e, -⟩
    · constructor
      · rintro ⟨e1, e2⟩
        refine ⟨by omega, fun j hj => ?_⟩
        have q := e2 j (by omega)
        rw [yvv (k2 j hj).1, yvv (m2 j (by omega)).1] at q
        exact lo8_inj (hf j hj).1 (k2 j hj).2 (hg j (by omega)).1 (m2 j (by omega)).2 q
      · rintro ⟨rfl, e2⟩
        refine ⟨by omega, fun j hj => ?_⟩
        rw [yvv (k2 j (by omega)).1, yvv (m2 j (by omega)).1, e2 j (by omega)]
    · exact absurd e (by decide)
  · rcases h' with ⟨e, -⟩ | ⟨-, m1, m2, -⟩
    · exact absurd e (by decide)
    · constructor
      · rintro ⟨e1, e2⟩
        refine ⟨by omega, fun j hj => ?_⟩
        have q1 := e2 (2 * j) (by omega)
        have q2 := e2 (2 * j + 1) (by omega)
        rw [yvv (k2 j hj).1, yvv (m2 j (by omega)).1] at q1
        rw [yvv (k2 j hj).2, yvv (m2 j (by omega)).2] at q2
        rw [← pair_says (hf j hj).1 (hf j hj).2, ← pair_says (hg j (by omega)).1 (hg j (by omega)).2, q1, q2]
      · rintro ⟨rfl, e2⟩
        refine ⟨by omega, fun i hi => ?_⟩
        rcases Nat.mod_two_eq_zero_or_one i with e | e
        · obtain ⟨j, rfl⟩ : ∃ j, i = 2 * j := ⟨i / 2, by omega⟩
          rw [yvv (k2 j (by omega)).1, yvv (m2 j (by omega)).1, e2 j (by omega)]
        · obtain ⟨j, rfl⟩ : ∃ j, i = 2 * j + 1 := ⟨i / 2, by omega⟩
          rw [yvv (k2 j (by omega)).2, yvv (m2 j (by omega)).2, e2 j (by omega)]
/-- two codings differ: so do the texts -/
theorem Cod.dif {cd cd' : Int32} {n k : Nat} {f g : Nat → Int32} {V V' : Cell} (h : Cod cd n f V) (h' : Cod cd' k g V') (hne : ¬ cd = cd') : ¬ SameT n f k g := by
  rintro ⟨rfl, e⟩
  rcases h with ⟨rfl, -, k2⟩ | ⟨rfl, -, -, j, hj, hw⟩
  · rcases h' with ⟨rfl, -⟩ | ⟨-, -, -, j, hj, hw⟩
    · exact hne rfl
    · exact (k2 j hj).2 (by rw [e j hj]; exact hw)
  · rcases h' with ⟨-, -, m2⟩ | ⟨rfl, -⟩
    · exact (m2 j hj).2 (by rw [← e j hj]; exact hw)
    · exact hne rfl
/-- an object of exactly C is an instance of C -/
theorem cinst {p : Program} {l : Launch} {e : Env} {R : Room} {s : State} {m : MethodId} {args : Array Value} {below : List Frame} {meth : Method} {c : Code} {T : State} {locs : List Loc} {cells slots : Nat} (X : Stand p l e R s m args below meth c T locs cells slots) (hexec : p.tables.exec = Jvm.exec) {own C : String} {index : Nat} (hown : s.vm.findClass own = some m.cls) (hlink : (Cond.classLink own index C).before args s = true) {a : Addr} (hE : Exact C a T)
    {g : JFrame} (hg : g.method = m) {rest : List Value} (hstack : g.stack = .ref a :: rest) (hdg : decode c.code g.pc = .ok (.instanceof index, 3)) :
    ∃ T', Stand p l e R s m args below meth c T' locs cells slots ∧ T'.heap = T.heap ∧ ∀ target, Steps p.tables e below (T'.setTop { g with pc := g.pc + 3, stack := .int 1 :: rest }) target → Steps p.tables e below (T.setTop g) target := by
  obtain ⟨cB, h1, D, h2, h3, h4⟩ := hE
  have h1' : s.vm.findClass C = some cB := by rw [← X.warmed.alike.findClass]; exact h1
  obtain ⟨vm', X', st⟩ := X.instanceofYes hexec hown hlink h2 h4 h1' (by rw [h3]; exact Jvm.Free.SB.assignable_self _ _) hg hstack hdg
  exact ⟨_, X', rfl, st⟩
theorem cself {p : Program} {l : Launch} {e : Env} {R : Room} {s : State} {m : MethodId} {args : Array Value} {below : List Frame} {meth : Method} {c : Code} {T : State} {locs : List Loc} {cells slots : Nat} (X : Stand p l e R s m args below meth c T locs cells slots) (hexec : p.tables.exec = Jvm.exec) {own C : String} {index : Nat} (hown : s.vm.findClass own = some m.cls) (hlink : (Cond.classLink own index C).before args s = true) {a : Addr} (hE : Exact C a T)
    {g : JFrame} (hg : g.method = m) {rest : List Value} (hstack : g.stack = .ref a :: rest) (hdg : decode c.code g.pc = .ok (.checkcast index, 3)) :
    ∃ T', Stand p l e R s m args below meth c T' locs cells slots ∧ T'.heap = T.heap ∧ ∀ target, Steps p.tables e below (T'.setTop { g with pc := g.pc + 3, stack := .ref a :: rest }) target → Steps p.tables e below (T.setTop g) target := by
  obtain ⟨cB, h1, D, h2, h3, h4⟩ := hE
  have h1' : s.vm.findClass C = some cB := by rw [← X.warmed.alike.findClass]; exact h1
  obtain ⟨vm', X', st⟩ := X.checkcastYes hexec hown hlink h2 h4 h1' (by rw [h3]; exact Jvm.Free.SB.assignable_self _ _) hg hstack hdg
  exact ⟨_, X', rfl, fun t h => st t (by rw [← hstack] at h; exact h)⟩
namespace SEq
def yN : MethodName := ⟨"java/lang/String", "equals", "(Ljava/lang/Object;)Z"⟩
abbrev yB : ByteArray := jdk_42_method_66_code
theorem d0 : decode yB 0 = .ok (.aload_n 0, 1) := by decide +kernel
theorem d1 : decode yB 1 = .ok (.aload_n 1, 1) := by decide +kernel
theorem d2 : decode yB 2 = .ok (.if_acmp (.ne) 5, 3) := by decide +kernel
theorem d5 : decode yB 5 = .ok (.iconst 1, 1) := by decide +kernel
theorem d6 : decode yB 6 = .ok (.ireturn, 1) := by decide +kernel
theorem d7 : decode yB 7 = .ok (.aload_n 1, 1) := by decide +kernel
theorem d8 : decode yB 8 = .ok (.instanceof 10, 3) := by decide +kernel
theorem d11 : decode yB 11 = .ok (.ifCond (.eq) 43, 3) := by decide +kernel
theorem d14 : decode yB 14 = .ok (.aload_n 1, 1) := by decide +kernel
theorem d15 : decode yB 15 = .ok (.checkcast 10, 3) := by decide +kernel
theorem d18 : decode yB 18 = .ok (.astore_n 2, 1) := by decide +kernel
theorem d19 : decode yB 19 = .ok (.getstatic 38, 3) := by decide +kernel
theorem d22 : decode yB 22 = .ok (.ifCond (.eq) 14, 3) := by decide +kernel
theorem d25 : decode yB 25 = .ok (.aload_n 0, 1) := by decide +kernel
theorem d26 : decode yB 26 = .ok (.getfield 15, 3) := by decide +kernel
theorem d29 : decode yB 29 = .ok (.aload_n 2, 1) := by decide +kernel
theorem d30 : decode yB 30 = .ok (.getfield 15, 3) := by decide +kernel
theorem d33 : decode yB 33 = .ok (.if_icmp (.ne) 21, 3) := by decide +kernel
theorem d36 : decode yB 36 = .ok (.aload_n 0, 1) := by decide +kernel
theorem d37 : decode yB 37 = .ok (.getfield 9, 3) := by decide +kernel
theorem d40 : decode yB 40 = .ok (.aload_n 2, 1) := by decide +kernel
theorem d41 : decode yB 41 = .ok (.getfield 9, 3) := by decide +kernel
theorem d44 : decode yB 44 = .ok (.invokestatic 541, 3) := by decide +kernel
theorem d47 : decode yB 47 = .ok (.ifCond (.eq) 7, 3) := by decide +kernel
theorem d50 : decode yB 50 = .ok (.iconst 1, 1) := by decide +kernel
theorem d51 : decode yB 51 = .ok (.goto 4, 3) := by decide +kernel
theorem d54 : decode yB 54 = .ok (.iconst 0, 1) := by decide +kernel
theorem d55 : decode yB 55 = .ok (.ireturn, 1) := by decide +kernel
def site : List Cond := [.classLink "java/lang/String" 10 "java/lang/String", .fieldLink "java/lang/String" 38 "java/lang/String" "COMPACT_STRINGS" "Z", .fieldLink "java/lang/String" 15 "java/lang/String" "coder" "B", .fieldLink "java/lang/String" 9 "java/lang/String" "value" "[B", LEq.tab] ++ staticW "java/lang/String" 541 LEq.yN
def tab : Cond := tabOf yN yB 3 (some .boolean) site
def P (x t : Addr) (V : Cell) (cd : Int32) (n : Nat) (f : Nat → Int32) (y t' : Addr) (V' : Cell) (cd' : Int32) (k : Nat) (g : Nat → Int32) (z : Int32) (args : Array Value) (s : State) : Prop := args = #[.ref x, .ref y] ∧ Txt x t V cd n f s ∧ Txt y t' V' cd' k g s ∧ StaticIs s "java/lang/String" "COMPACT_STRINGS" "Z" (.int z) ∧ ¬ z = 0
/-- equals(Object) of two Strings: whether the texts are the same -/
theorem law (l : Launch) (x t : Addr) (V : Cell) (cd : Int32) (n : Nat) (f : Nat → Int32) (y t' : Addr) (V' : Cell) (cd' : Int32) (k : Nat) (g : Nat → Int32) (z : Int32) : Law l yN 2 1 1 14 yB 3 (some .boolean) site (P x t V cd n f y t' V' cd' k g z) (Says01 (SameT n f k g)) [] 0 0 := by
  refine Law.of_walk (plainFor_of_name (by decide +kernel)) (by decide +kernel) (by decide +kernel) (by decide) (fun _ _ h => by rw [h.1]; rfl) (fun _ U U' hal hh h => ⟨h.1, h.2.1.mv hal hh, h.2.2.1.mv hal hh, h.2.2.2.1.there hal hh, h.2.2.2.2⟩) (fun r U U' V V' h1 hal h2 h => Says01.mv r U U' V V' h1 hal h2 h) ?_
  intro p e s m args below meth c s₁ X0 hexec hbytes hml hret hlk hnm hown hh0 W hP
  obtain ⟨rfl, hx, hy, s1, hz⟩ := hP
  have c1 : Steps p.tables e below (s₁.setTop (entryFrame m #[.ref x, .ref y] 3)) (s₁.setTop (mkF m 2 #[.val (.ref x), .val (.ref y), .unset] [.ref y, .ref x])) := Steps.trans (entry rfl) (by
    show Steps p.tables e below (s₁.setTop (mkF m 0 #[.val (.ref x), .val (.ref y), .unset] [])) _
    refine XS.aloadN X0.here hexec rfl (hb hbytes d0) rfl rfl ?_
    refine XS.aloadN X0.here hexec rfl (hb hbytes d1) rfl rfl ?_
    exact Steps.refl _)
  by_cases hxy : x = y
  · have c2 : Steps p.tables e below (s₁.setTop (entryFrame m #[.ref x, .ref y] 3)) (s₁.setTop (mkF m 6 #[.val (.ref x), .val (.ref y), .unset] [.int 1])) := c1.trans (by
      refine acmpNo X0.here hexec rfl (hb hbytes d2) rfl rfl rfl (by simp [acmp, hxy]) ?_
      refine iconstV X0.here hexec rfl 1 (hb hbytes d5) (by decide) ?_
      exact Steps.refl _)
    subst hxy
    have ec : cd = cd' := by
      obtain ⟨D, fd, a1, a2, a3⟩ := hx.2.2.1
      obtain ⟨D', fd', b1, b2, b3⟩ := hy.2.2.1
      cases a1.symm.trans b1
      obtain ⟨q1, q2, q3, q4⟩ := a2.1
      obtain ⟨r1, r2, r3, r4⟩ := b2.1
      cases q4.symm.trans r4
      cases a3.symm.trans b3; rfl
    have et : t = t' := by
      obtain ⟨D, fd, a1, a2, a3⟩ := hx.2.1
      obtain ⟨D', fd', b1, b2, b3⟩ := hy.2.1
      cases a1.symm.trans b1
      obtain ⟨q1, q2, q3, q4⟩ := a2.1
      obtain ⟨r1, r2, r3, r4⟩ := b2.1
      cases q4.symm.trans r4
      cases a3.symm.trans b3; rfl
    subst ec et
    have ev : V = V' := by cases hx.2.2.2.1.1.symm.trans hy.2.2.2.1.1; rfl
    subst ev
    have hs : SameT n f k g := (Cod.eqv hx.2.2.2.2.1 hy.2.2.2.2.1 hx.2.2.2.2.2 hy.2.2.2.2.2).mp ⟨rfl, fun _ _ => rfl⟩
    exact ⟨s₁, some (.int 1), _, _, _, X0, rfl, rfl, rfl, (fun h => by cases h), ⟨1, rfl, hh0, Or.inl ⟨rfl, hs⟩⟩, fun fs hl => c2.trans (X0.ireturnOut hexec hret rfl (Or.inr (Or.inl rfl)) (hb hbytes d6) hl)⟩
  · have c2 : Steps p.tables e below (s₁.setTop (entryFrame m #[.ref x, .ref y] 3)) (s₁.setTop (mkF m 8 #[.val (.ref x), .val (.ref y), .unset] [.ref y])) := c1.trans (by
      refine acmpYes X0.here hexec rfl (pc0 := 2) rfl (hb hbytes d2) rfl rfl rfl (by simp [acmp, hxy]) (by decide) rfl ?_
      refine XS.aloadN X0.here hexec rfl (hb hbytes d7) rfl rfl ?_
      exact Steps.refl _)
    obtain ⟨T3, X3, q3, st3⟩ := cinst X0 hexec hown (wk W (.classLink "java/lang/String" 10 "java/lang/String")) (hy.mv X0.warmed.alike hh0).1 (g := (mkF m 8 #[.val (.ref x), .val (.ref y), .unset] [.ref y])) rfl (rest := []) rfl (hb hbytes d8)
    have hh3 := q3.trans hh0
    have c4 : Steps p.tables e below (s₁.setTop (entryFrame m #[.ref x, .ref y] 3)) (T3.setTop (mkF m 15 #[.val (.ref x), .val (.ref y), .unset] [.ref y])) := (c2.trans (st3 _ (Steps.refl _))).trans (by
      refine XS.ifNo X3.here hexec rfl (hb hbytes d11) rfl (i0_eq_f (by decide)) ?_
      refine XS.aloadN X3.here hexec rfl (hb hbytes d14) rfl rfl ?_
      exact Steps.refl _)
    obtain ⟨T5, X5, q5, st5⟩ := cself X3 hexec hown (wk W (.classLink "java/lang/String" 10 "java/lang/String")) (hy.mv X3.warmed.alike hh3).1 (g := (mkF m 15 #[.val (.ref x), .val (.ref y), .unset] [.ref y])) rfl (rest := []) rfl (hb hbytes d15)
    have hh5 := q5.trans hh3
    have c6 : Steps p.tables e below (s₁.setTop (entryFrame m #[.ref x, .ref y] 3)) (T5.setTop (mkF m 19 #[.val (.ref x), .val (.ref y), .val (.ref y)] [])) := (c4.trans (st5 _ (Steps.refl _))).trans (by
      refine XS.astoreN X5.here hexec rfl (hb hbytes d18) rfl rfl rfl ?_
      exact Steps.refl _)
    obtain ⟨T7, X7, q7, st7⟩ := X5.sget hexec hown (wk W (.fieldLink "java/lang/String" 38 "java/lang/String" "COMPACT_STRINGS" "Z")) s1 (fun _ _ h => by rw [hh5]; exact h) (g := (mkF m 19 #[.val (.ref x), .val (.ref y), .val (.ref y)] [])) rfl (hb hbytes d19)
    have hh7 := q7.trans hh5
    have c8 : Steps p.tables e below (s₁.setTop (entryFrame m #[.ref x, .ref y] 3)) (T7.setTop (mkF m 26 #[.val (.ref x), .val (.ref y), .val (.ref y)] [.ref x])) := (c6.trans (st7 _ (Steps.refl _))).trans (by
      refine XS.ifNo X7.here hexec rfl (hb hbytes d22) rfl (i0_eq_f hz) ?_
      refine XS.aloadN X7.here hexec rfl (hb hbytes d25) rfl rfl ?_
      exact Steps.refl _)
    obtain ⟨T9, X9, q9, st9⟩ := X7.hget hexec hown (wk W (.fieldLink "java/lang/String" 15 "java/lang/String" "coder" "B")) (hx.mv X7.warmed.alike hh7).2.2.1 (g := (mkF m 26 #[.val (.ref x), .val (.ref y), .val (.ref y)] [.ref x])) rfl (rest := []) rfl (hb hbytes d26)
    have hh9 := q9.trans hh7
    have c10 : Steps p.tables e below (s₁.setTop (entryFrame m #[.ref x, .ref y] 3)) (T9.setTop (mkF m 30 #[.val (.ref x), .val (.ref y), .val (.ref y)] [.ref y, .int cd])) := (c8.trans (st9 _ (Steps.refl _))).trans (by
      refine XS.aloadN X9.here hexec rfl (hb hbytes d29) rfl rfl ?_
      exact Steps.refl _)
    obtain ⟨T11, X11, q11, st11⟩ := X9.hget hexec hown (wk W (.fieldLink "java/lang/String" 15 "java/lang/String" "coder" "B")) (hy.mv X9.warmed.alike hh9).2.2.1 (g := (mkF m 30 #[.val (.ref x), .val (.ref y), .val (.ref y)] [.ref y, .int cd])) rfl (rest := [.int cd]) rfl (hb hbytes d30)
    have hh11 := q11.trans hh9
    have c12 : Steps p.tables e below (s₁.setTop (entryFrame m #[.ref x, .ref y] 3)) (T11.setTop (mkF m 33 #[.val (.ref x), .val (.ref y), .val (.ref y)] [.int cd', .int cd])) := c10.trans (st11 _ (Steps.refl _))
    by_cases hcd : cd = cd'
    · subst hcd
      have c13 : Steps p.tables e below (s₁.setTop (entryFrame m #[.ref x, .ref y] 3)) (T11.setTop (mkF m 37 #[.val (.ref x), .val (.ref y), .val (.ref y)] [.ref x])) := c12.trans (by
        refine XS.icmpNo X11.here hexec rfl (hb hbytes d33) rfl (ii_ne_f rfl) ?_
        refine XS.aloadN X11.here hexec rfl (hb hbytes d36) rfl rfl ?_
        exact Steps.refl _)
      obtain ⟨T14, X14, q14, st14⟩ := X11.hget hexec hown (wk W (.fieldLink "java/lang/String" 9 "java/lang/String" "value" "[B")) (hx.mv X11.warmed.alike hh11).2.1 (g := (mkF m 37 #[.val (.ref x), .val (.ref y), .val (.ref y)] [.ref x])) rfl (rest := []) rfl (hb hbytes d37)
      have hh14 := q14.trans hh11
      have c15 : Steps p.tables e below (s₁.setTop (entryFrame m #[.ref x, .ref y] 3)) (T14.setTop (mkF m 41 #[.val (.ref x), .val (.ref y), .val (.ref y)] [.ref y, .ref t])) := (c13.trans (st14 _ (Steps.refl _))).trans (by
        refine XS.aloadN X14.here hexec rfl (hb hbytes d40) rfl rfl ?_
        exact Steps.refl _)
      obtain ⟨T16, X16, q16, st16⟩ := X14.hget hexec hown (wk W (.fieldLink "java/lang/String" 9 "java/lang/String" "value" "[B")) (hy.mv X14.warmed.alike hh14).2.1 (g := (mkF m 41 #[.val (.ref x), .val (.ref y), .val (.ref y)] [.ref y, .ref t])) rfl (rest := [.ref t]) rfl (hb hbytes d41)
      have hh16 := q16.trans hh14
      have c17 : Steps p.tables e below (s₁.setTop (entryFrame m #[.ref x, .ref y] 3)) (T16.setTop (mkF m 44 #[.val (.ref x), .val (.ref y), .val (.ref y)] [.ref t', .ref t])) := c15.trans (st16 _ (Steps.refl _))
      obtain ⟨v18, T18, X18, E18, g18⟩ := X16.callS hexec (LEq.law l t V t' V') hown (wks W (staticW "java/lang/String" 541 LEq.yN)) (wk W LEq.tab) (W := 0) (Nat.le_of_ble_eq_true rfl) (Nat.le_of_ble_eq_true rfl) (Nat.le_refl _) (Nat.le_refl _) (g := (mkF m 44 #[.val (.ref x), .val (.ref y), .val (.ref y)] [.ref t', .ref t])) rfl (by rw [hml]; rfl) c17 (argsL := [.ref t, .ref t']) (rest := []) rfl rfl (by show 2 * 0 + 0 ≤ _; decide) (hb hbytes d44) (⟨rfl, hx.2.2.2.1.mv X16.warmed.alike hh16, hx.2.2.2.2.1.ty, hy.2.2.2.1.mv X16.warmed.alike hh16, hy.2.2.2.2.1.ty⟩)
      obtain ⟨v, rfl, q18, hv⟩ := E18
      have iff := Cod.eqv hx.2.2.2.2.1 hy.2.2.2.2.1 hx.2.2.2.2.2 hy.2.2.2.2.2
      rcases hv with ⟨rfl, he⟩ | ⟨rfl, he⟩
      · have c19 : Steps p.tables e below (s₁.setTop (entryFrame m #[.ref x, .ref y] 3)) (T18.setTop (mkF m 55 #[.val (.ref x), .val (.ref y), .val (.ref y)] [.int 1])) := Steps.trans g18 (by
          refine XS.ifNo X18.here hexec rfl (hb hbytes d47) rfl (i0_eq_f (by decide)) ?_
          refine iconstV X18.here hexec rfl 1 (hb hbytes d50) (by decide) ?_
          refine XS.goto X18.here hexec rfl (pc0 := 51) rfl (hb hbytes d51) (by decide) rfl ?_
          exact Steps.refl _)
        exact ⟨T18, some (.int 1), _, _, _, X18, rfl, rfl, rfl, (fun h => by cases h), ⟨1, rfl, q18.trans hh16, Or.inl ⟨rfl, iff.mp he⟩⟩, fun fs hl => c19.trans (X18.ireturnOut hexec hret rfl (Or.inr (Or.inl rfl)) (hb hbytes d55) hl)⟩
      · have c19 : Steps p.tables e below (s₁.setTop (entryFrame m #[.ref x, .ref y] 3)) (T18.setTop (mkF m 55 #[.val (.ref x), .val (.ref y), .val (.ref y)] [.int 0])) := Steps.trans g18 (by
          refine XS.ifYes X18.here hexec rfl (pc0 := 47) rfl (hb hbytes d47) rfl (i0_eq_t rfl) (by decide) rfl ?_
          refine iconstV X18.here hexec rfl 0 (hb hbytes d54) (by decide) ?_
          exact Steps.refl _)
        exact ⟨T18, some (.int 0), _, _, _, X18, rfl, rfl, rfl, (fun h => by cases h), ⟨0, rfl, q18.trans hh16, Or.inr ⟨rfl, fun q => he (iff.mpr q)⟩⟩, fun fs hl => c19.trans (X18.ireturnOut hexec hret rfl (Or.inr (Or.inl rfl)) (hb hbytes d55) hl)⟩
    · have c13 : Steps p.tables e below (s₁.setTop (entryFrame m #[.ref x, .ref y] 3)) (T11.setTop (mkF m 55 #[.val (.ref x), .val (.ref y), .val (.ref y)] [.int 0])) := c12.trans (by
        refine XS.icmpYes X11.here hexec rfl (pc0 := 33) rfl (hb hbytes d33) rfl (ii_ne_t hcd) (by decide) rfl ?_
        refine iconstV X11.here hexec rfl 0 (hb hbytes d54) (by decide) ?_
        exact Steps.refl _)
      exact ⟨T11, some (.int 0), _, _, _, X11, rfl, rfl, rfl, (fun h => by cases h), ⟨0, rfl, hh11, Or.inr ⟨rfl, Cod.dif hx.2.2.2.2.1 hy.2.2.2.2.1 hcd⟩⟩, fun fs hl => c13.trans (X11.ireturnOut hexec hret rfl (Or.inr (Or.inl rfl)) (hb hbytes d55) hl)⟩
theorem pays {l : Launch} {R : Room} {p : Program} {e : Env} {below : List Frame} {s : State} {sargs : Array Value} {len W : Nat} (x t : Addr) (V : Cell) (cd : Int32) (n : Nat) (f : Nat → Int32) (y t' : Addr) (V' : Cell) (cd' : Int32) (k : Nat) (g : Nat → Int32) (z : Int32) (htab : tab.before sargs s = true) (hfr : 2 ≤ R.frames) (hlo : W + 28 ≤ R.locals) :
    Back l R p e below s sargs yN len W (fun A₁ a₁ => A₁.cells + 0 ≤ R.cells ∧ A₁.slots + 0 ≤ R.slots ∧ P x t V cd n f y t' V' cd' k g z a₁ A₁.U) (fun A₁ _ v₁ B₁ => Says01 (SameT n f k g) v₁ A₁.U B₁.U ∧ B₁.locs = A₁.locs ++ [] ∧ B₁.cells = A₁.cells + 0 ∧ B₁.slots = A₁.slots + 0) :=
  (law l x t V cd n f y t' V' cd' k g z).pays htab hfr (by omega)
end SEq
end StrChars
namespace StrChars.Road
open Jvm Sem ClassFile Op Lib Jvm.Stand Jvm.Free Jvm.Free.XT
open Jvm.Lib.Cold (StaticIs)
/-- the words of String.equals(Object) -/
abbrev wordsEq : List Jvm.Cond := [.code SEq.yN SEq.yB 3 (some .boolean), .initialized ST, .classLink ST 10 ST, .fieldLink ST 38 ST "COMPACT_STRINGS" "Z", .fieldLink ST 15 ST "coder" "B", .fieldLink ST 9 ST "value" "[B", .methodLink ST 541 LEq.yN, .static LEq.yN, .code LEq.yN LEq.yB 3 (some .boolean), .initialized "java/lang/StringLatin1"]
theorem tabEq_of {a : Array Value} {s : State} (h : ∀ w ∈ wordsEq, w.before a s = true) : SEq.tab.before a s = true := by
  have hl : LEq.tab.before a s = true := unparts (wk h (.code LEq.yN LEq.yB 3 (some .boolean))) (wks h (.initialized LEq.yN.cls :: LEq.site))
  have q := consq hl h
  exact unparts (wk q (.code SEq.yN SEq.yB 3 (some .boolean))) (wks q (.initialized SEq.yN.cls :: SEq.site))
theorem movedEq {Z s : State} {a0 args : Array Value} (hZ : Z.Warmed39 s.vm) (hw : ∀ d ∈ wordsEq, d.before a0 Z = true) : ∀ d ∈ wordsEq, d.before args s = true := fun d hd => by
  have t : ∀ d ∈ wordsEq, (d.onTables && d.keepsFace) = true := by decide +kernel
  exact RoadKit.mv hZ (hw d hd) (t d hd)
/-- the road's facts of a String, as the laws ask it -/
theorem txt_of {Z U : State} {a0 : Array Value} {kI : Nat} (wi : (Jvm.Cond.instantiable ST kI).before a0 Z = true) (al : Z.vm.Alike U.vm) {x t : Addr} {kb : ClassId} {cs : List Int32} {cd N2 : Int32} {vs : List Value} (E : RoadKit.Exa Z U.heap x ST) (V : RoadKit.Fld Z U.heap x ST "value" "[B" (.ref t)) (C : RoadKit.Fld Z U.heap x ST "coder" "B" (.int cd)) (K : RoadKit.Arv Z U.heap t kb .byte N2 vs (.int 0)) (hc : CodA cs cd N2 vs) (hb : ∀ c ∈ cs, ¬ c < 0 ∧ ¬ (65535 : Int32) < c) (l2 : cs.length ≤ 4000) :
    ∃ A, Txt x t A cd cs.length (fun j => cs.getD j 0) U := by
  obtain ⟨A, K1, K2, K3, K4, K5, K6⟩ := K
  have hcod := hc.cod (by omega) K3 K5
  obtain ⟨D, fV, fC, hB, F1, F2, g1, g2, -, -⟩ := strObj wi al E V C
  exact ⟨A, ⟨_, hB.2.2.1, D, hB.1, rfl, by cases q : D.vm <;> first | rfl | exact absurd q (hB.2.1.2 _)⟩, Has.of hB F1 g1, Has.of hB F2 g2, ⟨K1.1, State.isArrayOf_alike al K1.2.1, K1.2.2, by rcases hcod with ⟨-, q, -⟩ | ⟨-, q, -⟩ <;> omega⟩, hcod, fun j hj => by
    have e : cs.getD j 0 = cs[j] := by simp [List.getD_eq_getElem?_getD, hj]
    show ¬ cs.getD j 0 < 0 ∧ ¬ 65535 < cs.getD j 0
    rw [e]; exact hb _ (List.getElem_mem _)⟩
theorem same_list (cs ds : List Int32) : SameT cs.length (fun j => cs.getD j 0) ds.length (fun j => ds.getD j 0) ↔ cs = ds := by
  constructor
  · rintro ⟨e, q⟩
    refine List.ext_getElem e fun j h1 h2 => ?_
    have := q j h1
    simpa [List.getD_eq_getElem?_getD, h1, h2] using this
  · rintro rfl
    exact ⟨rfl, fun _ _ => rfl⟩
/-- **equals(Object) OF TWO SUCH STRINGS**: 1 just where the chars are the same -/
theorem eqW {p : Program} {l : Launch} {e : Env} {R : Room} {s : State} {args : Array Value} {below : List Frame} {len W : Nat} {Z : State} {a0 : Array Value} {h : Heap} (hZ : Z.Warmed39 s.vm) (hw : ∀ d ∈ wordsEq, d.before a0 Z = true) {kI : Nat} (wi : (Jvm.Cond.instantiable ST kI).before a0 Z = true)
    {x t : Addr} {kb : ClassId} {cs : List Int32} {cd N2 : Int32} {vs : List Value} (E : RoadKit.Exa Z h x ST) (V : RoadKit.Fld Z h x ST "value" "[B" (.ref t)) (C : RoadKit.Fld Z h x ST "coder" "B" (.int cd)) (K : RoadKit.Arv Z h t kb .byte N2 vs (.int 0)) (hc : CodA cs cd N2 vs) (hb : ∀ c ∈ cs, ¬ c < 0 ∧ ¬ (65535 : Int32) < c) (l2 : cs.length ≤ 4000)
    {y t' : Addr} {kb' : ClassId} {ds : List Int32} {cd' N2' : Int32} {vs' : List Value} (E' : RoadKit.Exa Z h y ST) (V' : RoadKit.Fld Z h y ST "value" "[B" (.ref t')) (C' : RoadKit.Fld Z h y ST "coder" "B" (.int cd')) (K' : RoadKit.Arv Z h t' kb' .byte N2' vs' (.int 0)) (hc' : CodA ds cd' N2' vs') (hb' : ∀ c ∈ ds, ¬ c < 0 ∧ ¬ (65535 : Int32) < c) (l2' : ds.length ≤ 4000)
    {z : Int32} (S : RoadKit.Sta Z h ST "COMPACT_STRINGS" "Z" (.int z)) (hz : ¬ z = 0) (hfr : 2 ≤ R.frames) (hlo : W + 28 ≤ R.locals) :
    Back l R p e below s args (⟨"java/lang/String", "equals", "(Ljava/lang/Object;)Z"⟩ : MethodName) len W (fun P a => a = #[.ref x, .ref y] ∧ P.U.heap = h ∧ P.cells + 0 ≤ R.cells ∧ P.slots + 0 ≤ R.slots)
      (fun P _ v B => ∃ L, (((v = some (.int 1) ∧ cs = ds) ∨ (v = some (.int 0) ∧ ¬ cs = ds)) ∧ L = [] ∧ B.U.heap = h) ∧ B.locs = P.locs ++ L ∧ B.cells = P.cells + 0 ∧ B.slots = P.slots + 0) := by
  intro m meth c P g ig mk a X hg hsize hdg hW hn hp'
  obtain ⟨rfl, rfl, r1, r2⟩ := hp'
  have al : Z.vm.Alike P.U.vm := hZ.alike.trans X.warmed.alike
  obtain ⟨A, hx⟩ := txt_of wi al E V C K hc hb l2
  obtain ⟨A', hy⟩ := txt_of wi al E' V' C' K' hc' hb' l2'
  obtain ⟨v, B, X', ⟨⟨w, hv, hh, hq⟩, hl, hk, hs⟩, st⟩ := SEq.pays x t A cd cs.length (fun j => cs.getD j 0) y t' A' cd' ds.length (fun j => ds.getD j 0) z (tabEq_of (movedEq hZ hw)) hfr hlo m meth c P g ig mk _ X hg hsize hdg hW hn ⟨r1, r2, rfl, hx, hy, sta_is al S, hz⟩
  refine ⟨v, B, X', ⟨[], ⟨?_, rfl, hh⟩, hl, hk, hs⟩, st⟩
  rcases hq with ⟨rfl, q⟩ | ⟨rfl, q⟩
  · exact Or.inl ⟨hv, (same_list cs ds).mp q⟩
  · exact Or.inr ⟨hv, fun e => q ((same_list cs ds).mpr e)⟩
end StrChars.Road
namespace StrChars.Road
open Jvm Sem ClassFile Op Lib Jvm.Stand Jvm.Free Jvm.Free.XT
open Jvm.Lib.Cold (StaticIs)
/-- what backV says of its String, as the contracts of this text ask it: cs's low bytes, coder 0 -/
theorem codOf {cs : List Int32} {n : Nat} (hn : cs.length = n) (hb : ∀ c ∈ cs, ¬ 255 < c) : CodA cs 0 (Int32.ofNat n) ((cs.map lo8).map Value.int) := Or.inl ⟨rfl, by rw [hn], by simp [List.map_map, Function.comp_def], hb⟩
end StrChars.Road
end Jvm.Pilot.@@N@@

namespace Jvm.Pilot.@@N@@
open Jvm Jvm.ClassFile Sem Op Lib Jvm.Free Jvm.Stand Jvm.LawKit Jvm.RoadKit Bundle Jvm.Pilot.@@N@@.Jvm.D
namespace Ow
/-- from T with the top frame g the invocation comes to its end, and there Q holds -/
def Run (p : Program) (e : Env) (below : List Frame) (Q : Outcome → State → Prop) (T : State) (g : JFrame) : Prop :=
  ∃ s₂ o, Steps p.tables e below (T.setTop g) s₂ ∧ s₂.status = .running ∧ Ended s₂ below o ∧ Q o s₂
/-- x >>> y of a long -/
def ushJ (x : Int64) (y : Int32) : Int64 := (x.toUInt64 >>> (y &&& 0x3f).toInt64.toUInt64).toInt64
/-- what a walk that may intern keeps beside its Stand: nothing in it speaks of the state at hand but by its heap -/
def Rs (s : State) (m : MethodId) (Z : State) (EL : List (String × Nat)) (own : String) (h0 : Heap) (ws : List Addr) (vm0 : Vm) (k0 : Nat) (locs : List Loc) (h : Heap) (S : List Addr) : Prop :=
  s.Since vm0 k0 ∧ k0 ≤ h.size ∧ Z.Warmed39 vm0 ∧ vm0.findClass own = some m.cls ∧ CHr Z EL s.vm h0 vm0 h ∧ Fr Z.heap.size locs ∧ Keep h0 h ws ∧ Ext Z.heap h0 ∧ (∀ x ∈ ws, Z.heap.size ≤ x) ∧ ∀ x ∈ S, x < h.size ∧ Safe Z EL vm0 h x
/-- where a walk stands: its heap h, what it has made, and the addresses S that no constant books -/
def Wk (p : Program) (l : Launch) (e : Env) (R : Room) (s : State) (m : MethodId) (args : Array Value) (below : List Frame) (meth : Method) (c : Code) (Z : State) (EL : List (String × Nat)) (own : String) (h0 : Heap) (ws : List Addr)
    (T : State) (h : Heap) (cells slots : Nat) (S : List Addr) : Prop :=
  ∃ (vm0 : Vm) (k0 : Nat) (locs : List Loc), p.tables.exec = Jvm.exec ∧ Stand p l e R (s.setVm vm0) m args below meth c T locs cells slots ∧ T.heap = h ∧ Rs s m Z EL own h0 ws vm0 k0 locs h S
section Kit
variable {p : Program} {l : Launch} {e : Env} {R : Room} {s : State} {m : MethodId} {args : Array Value} {below : List Frame} {meth : Method} {c : Code} {Z : State} {a0 : Array Value} {EL : List (String × Nat)} {own : String} {h0 : Heap} {ws : List Addr} {T T' : State} {h h' hB : Heap} {cells slots : Nat} {S : List Addr} {Q : Outcome → State → Prop} {pc pc' pc1 pc2 : Nat} {Ls l' : Array Slot} {rest st : List Value} {vm0 : Vm} {k0 : Nat} {locs : List Loc} {g g' : JFrame}
theorem Run.to (f : ∀ t, Steps p.tables e below (T'.setTop g') t → Steps p.tables e below (T.setTop g) t) (k : Run p e below Q T' g') : Run p e below Q T g := by
  obtain ⟨a, b, q, r⟩ := k
  exact ⟨a, b, f _ q, r⟩
theorem Run.stp (f : Steps p.tables e below (T.setTop g) (T'.setTop g')) (k : Run p e below Q T' g') : Run p e below Q T g := Run.to (fun _ q => f.trans q) k
theorem Run.join {α : Type} {C : α → Prop} {F : α → JFrame} (k1 : ∀ a, C a → Run p e below Q T (F a)) (k2 : (∀ a, C a → Run p e below Q T (F a)) → Run p e below Q T g) : Run p e below Q T g := k2 k1
theorem Run.joinW (w : Wk p l e R s m args below meth c Z EL own h0 ws T h cells slots S) {α : Type} {C : α → Prop} {F : α → JFrame} (k1 : ∀ T' a, Wk p l e R s m args below meth c Z EL own h0 ws T' h cells slots S → C a → Run p e below Q T' (F a)) (k2 : (∀ T' a, Wk p l e R s m args below meth c Z EL own h0 ws T' h cells slots S → C a → Run p e below Q T' (F a)) → Run p e below Q T g) : Run p e below Q T g := k2 k1
theorem Run.cast (q : g = g') (k : Run p e below Q T g') : Run p e below Q T g := q ▸ k
theorem Rs.ch (r : Rs s m Z EL own h0 ws vm0 k0 locs h S) : CHv Z EL vm0 h := r.2.2.2.2.1.1
theorem Rs.hZ (r : Rs s m Z EL own h0 ws vm0 k0 locs h S) : Z.Warmed39 (s.setVm vm0).vm := r.2.2.1
theorem Rs.ow (r : Rs s m Z EL own h0 ws vm0 k0 locs h S) : (s.setVm vm0).vm.findClass own = some m.cls := r.2.2.2.1
theorem Rs.keep (r : Rs s m Z EL own h0 ws vm0 k0 locs h S) : Keep h0 h ws := r.2.2.2.2.2.2.1
theorem Rs.ext (r : Rs s m Z EL own h0 ws vm0 k0 locs h S) (E : Ext h h') : Rs s m Z EL own h0 ws vm0 k0 locs h' S := by
  obtain ⟨a1, a2, a3, a4, a5, a6, a7, a8, a9, a10⟩ := r
  exact ⟨a1, Nat.le_trans a2 E.1, a3, a4, a5.trans (CHr.ext E a5.1), a6, a7.ext E, a8, a9, fun x q => ⟨Nat.lt_of_lt_of_le (a10 x q).1 E.1, Safe.ext E a5.1 (a10 x q).2⟩⟩
theorem Rs.add (r : Rs s m Z EL own h0 ws vm0 k0 locs h S) (E : Ext h h') {x : Addr} (q1 : h.size ≤ x) (q2 : x < h'.size) : Rs s m Z EL own h0 ws vm0 k0 locs h' (x :: S) := by
  have r' := r.ext E
  obtain ⟨a1, a2, a3, a4, a5, a6, a7, a8, a9, a10⟩ := r'
  refine ⟨a1, a2, a3, a4, a5, a6, a7, a8, a9, fun y q => ?_⟩
  rcases List.mem_cons.mp q with rfl | q
  · exact ⟨q2, Safe.ext E r.ch (Safe.new q1)⟩
  · exact a10 y q
theorem Rs.wr (r : Rs s m Z EL own h0 ws vm0 k0 locs h S) {a : Addr} {sl : Nat} {v : Value} (W : Wr h h' a sl v) (Sa : Safe Z EL vm0 h a) (q : a ∈ ws ∨ h0.size ≤ a) : Rs s m Z EL own h0 ws vm0 k0 (locs ++ [⟨a, sl⟩]) h' S := by
  obtain ⟨a1, a2, a3, a4, a5, a6, a7, a8, a9, a10⟩ := r
  have hsz := W.size
  refine ⟨a1, by rw [hsz]; exact a2, a3, a4, a5.trans (CHr.wr W Sa a5.1), a6.app fun y hy => ?_, a7.wr W q, a8, a9, fun x z => ⟨by rw [hsz]; exact (a10 x z).1, Safe.wr W Sa a5.1 (a10 x z).2⟩⟩
  rw [List.mem_singleton.mp hy]
  rcases q with q | q
  · exact a9 _ q
  · exact Nat.le_trans a8.1 q
theorem Rs.sub (r : Rs s m Z EL own h0 ws vm0 k0 locs h S) {S' : List Addr} (q : ∀ x ∈ S', x ∈ S) : Rs s m Z EL own h0 ws vm0 k0 locs h S' := by
  obtain ⟨a1, a2, a3, a4, a5, a6, a7, a8, a9, a10⟩ := r
  exact ⟨a1, a2, a3, a4, a5, a6, a7, a8, a9, fun x z => a10 x (q x z)⟩
theorem Ext.rf (h : Heap) : Ext h h := ⟨Nat.le_refl _, fun _ _ q => q⟩
theorem Ext.tr {h2 : Heap} (E : Ext h h') (F : Ext h' h2) : Ext h h2 := ⟨Nat.le_trans E.1 F.1, fun x c q => F.2 x c (E.2 x c q)⟩
theorem Ext.wr' (E : Ext hB h) {a : Addr} {sl : Nat} {v : Value} (W : Wr h h' a sl v) (q : hB.size ≤ a) : Ext hB h' := by
  have hsz := W.size
  refine ⟨by rw [hsz]; exact E.1, fun x c z => ?_⟩
  obtain ⟨c0, -, -, -, rfl⟩ := W
  have hx := (Array.getElem?_eq_some_iff.mp z).1
  rw [Array.getElem?_setIfInBounds_ne (by omega)]
  exact E.2 x c z
theorem Ext.kp (E : Ext hB h) {vs : List Addr} (K : Keep h h' vs) (q : ∀ x ∈ vs, hB.size ≤ x) : Ext hB h' := by
  refine ⟨Nat.le_trans E.1 K.1, fun x c z => K.2.1 x c (E.2 x c z) fun hm => ?_⟩
  have hx := (Array.getElem?_eq_some_iff.mp z).1
  have := q x hm
  omega
theorem Keep.ext0 (K : Keep h h' []) : Ext h h' := ⟨K.1, fun x c q => K.2.1 x c q nin0⟩
theorem Wk.at (w : Wk p l e R s m args below meth c Z EL own h0 ws T h cells slots S) : At T m c below := by obtain ⟨_, _, _, -, X, -⟩ := w; exact X.here
theorem Wk.hx (w : Wk p l e R s m args below meth c Z EL own h0 ws T h cells slots S) : p.tables.exec = Jvm.exec := by obtain ⟨_, _, _, q, -⟩ := w; exact q
theorem Wk.keep (w : Wk p l e R s m args below meth c Z EL own h0 ws T h cells slots S) : Keep h0 h ws := by obtain ⟨_, _, _, -, -, -, r⟩ := w; exact r.keep
theorem Rs.old (r : Rs s m Z EL own h0 ws vm0 k0 locs h S) : Ext Z.heap h := Ext.kp r.2.2.2.2.2.2.2.1 r.keep r.2.2.2.2.2.2.2.2.1
theorem Wk.old (w : Wk p l e R s m args below meth c Z EL own h0 ws T h cells slots S) : Ext Z.heap h := by obtain ⟨_, _, _, -, -, -, r⟩ := w; exact r.old
theorem Wk.mono (w : Wk p l e R s m args below meth c Z EL own h0 ws T h cells slots S) {cells' slots' : Nat} (q1 : cells ≤ cells') (q2 : slots ≤ slots') : Wk p l e R s m args below meth c Z EL own h0 ws T h cells' slots' S := by
  obtain ⟨vm0, k0, locs, hx, X, r⟩ := w
  exact ⟨vm0, k0, locs, hx, X.mono q1 q2, r⟩
theorem Wk.sub (w : Wk p l e R s m args below meth c Z EL own h0 ws T h cells slots S) {S' : List Addr} (q : ∀ x ∈ S', x ∈ S) : Wk p l e R s m args below meth c Z EL own h0 ws T h cells slots S' := by
  obtain ⟨vm0, k0, locs, hx, X, eT, r⟩ := w
  exact ⟨vm0, k0, locs, hx, X, eT, r.sub q⟩
theorem s_iadd (w : Wk p l e R s m args below meth c Z EL own h0 ws T h cells slots S) {x y : Int32} (hd : decode c.code pc = .ok (.iadd, 1)) (hp : pc + 1 = pc') (k : Run p e below Q T (mkF m pc' Ls (.int (x + y) :: rest))) : Run p e below Q T (mkF m pc Ls (.int y :: .int x :: rest)) := by
  subst hp; exact Run.to (fun _ q => XS.iadd w.at w.hx rfl hd rfl q) k
theorem s_isub (w : Wk p l e R s m args below meth c Z EL own h0 ws T h cells slots S) {x y : Int32} (hd : decode c.code pc = .ok (.isub, 1)) (hp : pc + 1 = pc') (k : Run p e below Q T (mkF m pc' Ls (.int (x - y) :: rest))) : Run p e below Q T (mkF m pc Ls (.int y :: .int x :: rest)) := by
  subst hp; exact Run.to (fun _ q => XS.isub w.at w.hx rfl hd rfl q) k
theorem s_iand (w : Wk p l e R s m args below meth c Z EL own h0 ws T h cells slots S) {x y : Int32} (hd : decode c.code pc = .ok (.iand, 1)) (hp : pc + 1 = pc') (k : Run p e below Q T (mkF m pc' Ls (.int (x &&& y) :: rest))) : Run p e below Q T (mkF m pc Ls (.int y :: .int x :: rest)) := by
  subst hp; exact Run.to (fun _ q => XS.iand w.at w.hx rfl hd rfl q) k
theorem s_imul (w : Wk p l e R s m args below meth c Z EL own h0 ws T h cells slots S) {x y : Int32} (hd : decode c.code pc = .ok (.imul, 1)) (hp : pc + 1 = pc') (k : Run p e below Q T (mkF m pc' Ls (.int (x * y) :: rest))) : Run p e below Q T (mkF m pc Ls (.int y :: .int x :: rest)) := by
  subst hp; exact Run.to (fun _ q => XS.imul w.at w.hx rfl hd rfl q) k
theorem s_ixor (w : Wk p l e R s m args below meth c Z EL own h0 ws T h cells slots S) {x y : Int32} (hd : decode c.code pc = .ok (.ixor, 1)) (hp : pc + 1 = pc') (k : Run p e below Q T (mkF m pc' Ls (.int (x ^^^ y) :: rest))) : Run p e below Q T (mkF m pc Ls (.int y :: .int x :: rest)) := by
  subst hp; exact Run.to (fun _ q => XT.ixor w.at w.hx rfl hd rfl q) k
theorem s_ior (w : Wk p l e R s m args below meth c Z EL own h0 ws T h cells slots S) {x y : Int32} (hd : decode c.code pc = .ok (.ior, 1)) (hp : pc + 1 = pc') (k : Run p e below Q T (mkF m pc' Ls (.int (x ||| y) :: rest))) : Run p e below Q T (mkF m pc Ls (.int y :: .int x :: rest)) := by
  subst hp; exact Run.to (fun _ q => XT.ior w.at w.hx rfl hd rfl q) k
theorem s_ishl (w : Wk p l e R s m args below meth c Z EL own h0 ws T h cells slots S) {x y : Int32} (hd : decode c.code pc = .ok (.ishl, 1)) (hp : pc + 1 = pc') (k : Run p e below Q T (mkF m pc' Ls (.int (x <<< (y &&& 31)) :: rest))) : Run p e below Q T (mkF m pc Ls (.int y :: .int x :: rest)) := by
  subst hp; exact Run.to (fun _ q => XT.ishl w.at w.hx rfl hd rfl q) k
theorem s_ishr (w : Wk p l e R s m args below meth c Z EL own h0 ws T h cells slots S) {x y : Int32} (hd : decode c.code pc = .ok (.ishr, 1)) (hp : pc + 1 = pc') (k : Run p e below Q T (mkF m pc' Ls (.int (x >>> (y &&& 31)) :: rest))) : Run p e below Q T (mkF m pc Ls (.int y :: .int x :: rest)) := by
  subst hp; exact Run.to (fun _ q => XT.ishr w.at w.hx rfl hd rfl q) k
theorem s_iushr (w : Wk p l e R s m args below meth c Z EL own h0 ws T h cells slots S) {x y : Int32} (hd : decode c.code pc = .ok (.iushr, 1)) (hp : pc + 1 = pc') (k : Run p e below Q T (mkF m pc' Ls (.int (XT.ushr x y) :: rest))) : Run p e below Q T (mkF m pc Ls (.int y :: .int x :: rest)) := by
  subst hp; exact Run.to (fun _ q => XT.iushr w.at w.hx rfl hd rfl q) k
theorem s_irem (w : Wk p l e R s m args below meth c Z EL own h0 ws T h cells slots S) {x y : Int32} (hd : decode c.code pc = .ok (.irem, 1)) (hy : y ≠ 0) (hp : pc + 1 = pc') (k : Run p e below Q T (mkF m pc' Ls (.int (x % y) :: rest))) : Run p e below Q T (mkF m pc Ls (.int y :: .int x :: rest)) := by
  subst hp; obtain ⟨_, _, _, hx, X, -⟩ := w; exact Run.to (fun _ q => iremM X hx rfl hd rfl hy q) k
theorem s_idiv (w : Wk p l e R s m args below meth c Z EL own h0 ws T h cells slots S) {x y : Int32} (hd : decode c.code pc = .ok (.idiv, 1)) (hy : y ≠ 0) (hp : pc + 1 = pc') (k : Run p e below Q T (mkF m pc' Ls (.int (x / y) :: rest))) : Run p e below Q T (mkF m pc Ls (.int y :: .int x :: rest)) := by
  subst hp; exact Run.to (fun _ q => XS.idiv w.at w.hx rfl hd rfl hy q) k
theorem s_ladd (w : Wk p l e R s m args below meth c Z EL own h0 ws T h cells slots S) {x y : Int64} (hd : decode c.code pc = .ok (.ladd, 1)) (hp : pc + 1 = pc') (k : Run p e below Q T (mkF m pc' Ls (.long (x + y) :: rest))) : Run p e below Q T (mkF m pc Ls (.long y :: .long x :: rest)) := by
  subst hp; exact Run.to (fun _ q => XT.ladd w.at w.hx rfl hd rfl q) k
theorem s_lsub (w : Wk p l e R s m args below meth c Z EL own h0 ws T h cells slots S) {x y : Int64} (hd : decode c.code pc = .ok (.lsub, 1)) (hp : pc + 1 = pc') (k : Run p e below Q T (mkF m pc' Ls (.long (x - y) :: rest))) : Run p e below Q T (mkF m pc Ls (.long y :: .long x :: rest)) := by
  subst hp; exact Run.to (fun _ q => XT.lsub w.at w.hx rfl hd rfl q) k
theorem s_lmul (w : Wk p l e R s m args below meth c Z EL own h0 ws T h cells slots S) {x y : Int64} (hd : decode c.code pc = .ok (.lmul, 1)) (hp : pc + 1 = pc') (k : Run p e below Q T (mkF m pc' Ls (.long (x * y) :: rest))) : Run p e below Q T (mkF m pc Ls (.long y :: .long x :: rest)) := by
  subst hp; exact Run.to (fun _ q => XT.lmul w.at w.hx rfl hd rfl q) k
theorem s_land (w : Wk p l e R s m args below meth c Z EL own h0 ws T h cells slots S) {x y : Int64} (hd : decode c.code pc = .ok (.land, 1)) (hp : pc + 1 = pc') (k : Run p e below Q T (mkF m pc' Ls (.long (x &&& y) :: rest))) : Run p e below Q T (mkF m pc Ls (.long y :: .long x :: rest)) := by
  subst hp; exact Run.to (fun _ q => XT.land w.at w.hx rfl hd rfl q) k
theorem s_lor (w : Wk p l e R s m args below meth c Z EL own h0 ws T h cells slots S) {x y : Int64} (hd : decode c.code pc = .ok (.lor, 1)) (hp : pc + 1 = pc') (k : Run p e below Q T (mkF m pc' Ls (.long (x ||| y) :: rest))) : Run p e below Q T (mkF m pc Ls (.long y :: .long x :: rest)) := by
  subst hp; exact Run.to (fun _ q => XT.lor w.at w.hx rfl hd rfl q) k
theorem s_lxor (w : Wk p l e R s m args below meth c Z EL own h0 ws T h cells slots S) {x y : Int64} (hd : decode c.code pc = .ok (.lxor, 1)) (hp : pc + 1 = pc') (k : Run p e below Q T (mkF m pc' Ls (.long (x ^^^ y) :: rest))) : Run p e below Q T (mkF m pc Ls (.long y :: .long x :: rest)) := by
  subst hp; exact Run.to (fun _ q => XT.lxor w.at w.hx rfl hd rfl q) k
theorem s_lshl (w : Wk p l e R s m args below meth c Z EL own h0 ws T h cells slots S) {x : Int64} {y : Int32} (hd : decode c.code pc = .ok (.lshl, 1)) (hp : pc + 1 = pc') (k : Run p e below Q T (mkF m pc' Ls (.long (x <<< (y &&& 0x3f).toInt64) :: rest))) : Run p e below Q T (mkF m pc Ls (.int y :: .long x :: rest)) := by
  subst hp; exact Run.to (fun _ q => XS.lshl w.at w.hx rfl hd rfl q) k
theorem s_lshr (w : Wk p l e R s m args below meth c Z EL own h0 ws T h cells slots S) {x : Int64} {y : Int32} (hd : decode c.code pc = .ok (.lshr, 1)) (hp : pc + 1 = pc') (k : Run p e below Q T (mkF m pc' Ls (.long (x >>> (y &&& 0x3f).toInt64) :: rest))) : Run p e below Q T (mkF m pc Ls (.int y :: .long x :: rest)) := by
  subst hp; exact Run.to (fun _ q => XS.lshr w.at w.hx rfl hd rfl q) k
theorem s_lushr (w : Wk p l e R s m args below meth c Z EL own h0 ws T h cells slots S) {x : Int64} {y : Int32} (hd : decode c.code pc = .ok (.lushr, 1)) (hp : pc + 1 = pc') (k : Run p e below Q T (mkF m pc' Ls (.long (ushJ x y) :: rest))) : Run p e below Q T (mkF m pc Ls (.int y :: .long x :: rest)) := by
  subst hp; exact Run.to (fun _ q => XS.lushr w.at w.hx rfl hd rfl q) k
theorem s_lcmp (w : Wk p l e R s m args below meth c Z EL own h0 ws T h cells slots S) {x y : Int64} (hd : decode c.code pc = .ok (.lcmp, 1)) (hp : pc + 1 = pc') (k : Run p e below Q T (mkF m pc' Ls (.int (XT.cmpL x y) :: rest))) : Run p e below Q T (mkF m pc Ls (.long y :: .long x :: rest)) := by
  subst hp; exact Run.to (fun _ q => XT.lcmp w.at w.hx rfl hd rfl q) k
theorem s_ineg (w : Wk p l e R s m args below meth c Z EL own h0 ws T h cells slots S) {x : Int32} (hd : decode c.code pc = .ok (.ineg, 1)) (hp : pc + 1 = pc') (k : Run p e below Q T (mkF m pc' Ls (.int (-x) :: rest))) : Run p e below Q T (mkF m pc Ls (.int x :: rest)) := by
  subst hp; exact Run.to (fun _ q => XS.ineg w.at w.hx rfl hd rfl q) k
theorem s_i2l (w : Wk p l e R s m args below meth c Z EL own h0 ws T h cells slots S) {x : Int32} (hd : decode c.code pc = .ok (.i2l, 1)) (hp : pc + 1 = pc') (k : Run p e below Q T (mkF m pc' Ls (.long x.toInt64 :: rest))) : Run p e below Q T (mkF m pc Ls (.int x :: rest)) := by
  subst hp; exact Run.to (fun _ q => XT.i2l w.at w.hx rfl hd rfl q) k
theorem s_l2i (w : Wk p l e R s m args below meth c Z EL own h0 ws T h cells slots S) {x : Int64} (hd : decode c.code pc = .ok (.l2i, 1)) (hp : pc + 1 = pc') (k : Run p e below Q T (mkF m pc' Ls (.int x.toInt32 :: rest))) : Run p e below Q T (mkF m pc Ls (.long x :: rest)) := by
  subst hp; exact Run.to (fun _ q => XT.l2i w.at w.hx rfl hd rfl q) k
theorem s_i2b (w : Wk p l e R s m args below meth c Z EL own h0 ws T h cells slots S) {x : Int32} (hd : decode c.code pc = .ok (.i2b, 1)) (hp : pc + 1 = pc') (k : Run p e below Q T (mkF m pc' Ls (.int x.toInt8.toInt32 :: rest))) : Run p e below Q T (mkF m pc Ls (.int x :: rest)) := by
  subst hp; exact Run.to (fun _ q => XT.i2b w.at w.hx rfl hd rfl q) k
theorem s_i2s (w : Wk p l e R s m args below meth c Z EL own h0 ws T h cells slots S) {x : Int32} (hd : decode c.code pc = .ok (.i2s, 1)) (hp : pc + 1 = pc') (k : Run p e below Q T (mkF m pc' Ls (.int x.toInt16.toInt32 :: rest))) : Run p e below Q T (mkF m pc Ls (.int x :: rest)) := by
  subst hp; exact Run.to (fun _ q => XT.i2s w.at w.hx rfl hd rfl q) k
theorem s_i2c (w : Wk p l e R s m args below meth c Z EL own h0 ws T h cells slots S) {x : Int32} (hd : decode c.code pc = .ok (.i2c, 1)) (hp : pc + 1 = pc') (k : Run p e below Q T (mkF m pc' Ls (.int (nar .char x) :: rest))) : Run p e below Q T (mkF m pc Ls (.int x :: rest)) := by
  subst hp; exact Run.to (fun _ q => XT.i2c w.at w.hx rfl hd rfl q) k
theorem s_dup (w : Wk p l e R s m args below meth c Z EL own h0 ws T h cells slots S) {x : Value} (hd : decode c.code pc = .ok (.dup, 1)) (hc : x.category = 1) (hp : pc + 1 = pc') (k : Run p e below Q T (mkF m pc' Ls (x :: x :: rest))) : Run p e below Q T (mkF m pc Ls (x :: rest)) := by
  subst hp; exact Run.to (fun _ q => XS.dup w.at w.hx rfl hd rfl hc q) k
theorem s_pop (w : Wk p l e R s m args below meth c Z EL own h0 ws T h cells slots S) {x : Value} (hd : decode c.code pc = .ok (.pop, 1)) (hc : x.category = 1) (hp : pc + 1 = pc') (k : Run p e below Q T (mkF m pc' Ls rest)) : Run p e below Q T (mkF m pc Ls (x :: rest)) := by
  subst hp; exact Run.to (fun _ q => XT.pop w.at w.hx rfl hd rfl hc q) k
theorem s_dup_x1 (w : Wk p l e R s m args below meth c Z EL own h0 ws T h cells slots S) {x y : Value} (hd : decode c.code pc = .ok (.dup_x1, 1)) (hc : x.category = 1) (hc' : y.category = 1) (hp : pc + 1 = pc') (k : Run p e below Q T (mkF m pc' Ls (x :: y :: x :: rest))) : Run p e below Q T (mkF m pc Ls (x :: y :: rest)) := by
  subst hp; exact Run.to (fun _ q => XT.dupX1 w.at w.hx rfl hd rfl hc hc' q) k
theorem s_dup2 (w : Wk p l e R s m args below meth c Z EL own h0 ws T h cells slots S) {x y : Value} (hd : decode c.code pc = .ok (.dup2, 1)) (hc : x.category = 1) (hc' : y.category = 1) (hp : pc + 1 = pc') (k : Run p e below Q T (mkF m pc' Ls (x :: y :: x :: y :: rest))) : Run p e below Q T (mkF m pc Ls (x :: y :: rest)) := by
  subst hp; exact Run.to (fun _ q => XT.dup2 w.at w.hx rfl hd rfl hc hc' q) k
theorem s_iconst (w : Wk p l e R s m args below meth c Z EL own h0 ws T h cells slots S) {i : Int} {v : Int32} (hd : decode c.code pc = .ok (.iconst i, 1)) (hv : Int32.ofInt i = v) (hp : pc + 1 = pc') (k : Run p e below Q T (mkF m pc' Ls (.int v :: st))) : Run p e below Q T (mkF m pc Ls st) := by
  subst hp hv; exact Run.to (fun _ q => XS.iconst w.at w.hx rfl hd q) k
theorem s_bipush (w : Wk p l e R s m args below meth c Z EL own h0 ws T h cells slots S) {i : Int} {v : Int32} (hd : decode c.code pc = .ok (.bipush i, 2)) (hv : (Int8.ofInt i).toInt32 = v) (hp : pc + 2 = pc') (k : Run p e below Q T (mkF m pc' Ls (.int v :: st))) : Run p e below Q T (mkF m pc Ls st) := by
  subst hp hv; exact Run.to (fun _ q => XS.bipush w.at w.hx rfl hd q) k
theorem s_sipush (w : Wk p l e R s m args below meth c Z EL own h0 ws T h cells slots S) {i : Int} {v : Int32} (hd : decode c.code pc = .ok (.sipush i, 3)) (hv : (Int16.ofInt i).toInt32 = v) (hp : pc + 3 = pc') (k : Run p e below Q T (mkF m pc' Ls (.int v :: st))) : Run p e below Q T (mkF m pc Ls st) := by
  subst hp hv; exact Run.to (fun _ q => XS.sipush w.at w.hx rfl hd q) k
theorem s_lconst (w : Wk p l e R s m args below meth c Z EL own h0 ws T h cells slots S) {i : Fin 2} {v : Int64} (hd : decode c.code pc = .ok (.lconst i, 1)) (hv : Int64.ofNat i = v) (hp : pc + 1 = pc') (k : Run p e below Q T (mkF m pc' Ls (.long v :: st))) : Run p e below Q T (mkF m pc Ls st) := by
  subst hp hv; exact Run.to (fun _ q => XT.lconst w.at w.hx rfl hd q) k
theorem s_anull (w : Wk p l e R s m args below meth c Z EL own h0 ws T h cells slots S) (hd : decode c.code pc = .ok (.aconst_null, 1)) (hp : pc + 1 = pc') (k : Run p e below Q T (mkF m pc' Ls (.null :: st))) : Run p e below Q T (mkF m pc Ls st) := by
  subst hp; exact Run.to (fun _ q => XS.aconstNull w.at w.hx rfl hd q) k
theorem s_iload (w : Wk p l e R s m args below meth c Z EL own h0 ws T h cells slots S) {i : Nat} {v : Int32} (hd : decode c.code pc = .ok (.iload i, 2)) (hl : Ls[i]? = some (.val (.int v))) (hp : pc + 2 = pc') (k : Run p e below Q T (mkF m pc' Ls (.int v :: st))) : Run p e below Q T (mkF m pc Ls st) := by
  subst hp; exact Run.to (fun _ q => XS.iload w.at w.hx rfl hd hl q) k
theorem s_iload_n (w : Wk p l e R s m args below meth c Z EL own h0 ws T h cells slots S) {i : Fin 4} {v : Int32} (hd : decode c.code pc = .ok (.iload_n i, 1)) (hl : Ls[i.val]? = some (.val (.int v))) (hp : pc + 1 = pc') (k : Run p e below Q T (mkF m pc' Ls (.int v :: st))) : Run p e below Q T (mkF m pc Ls st) := by
  subst hp; exact Run.to (fun _ q => XS.iloadN w.at w.hx rfl hd hl q) k
theorem s_lload (w : Wk p l e R s m args below meth c Z EL own h0 ws T h cells slots S) {i : Nat} {v : Int64} (hd : decode c.code pc = .ok (.lload i, 2)) (hl : Ls[i]? = some (.val (.long v))) (hp : pc + 2 = pc') (k : Run p e below Q T (mkF m pc' Ls (.long v :: st))) : Run p e below Q T (mkF m pc Ls st) := by
  subst hp; exact Run.to (fun _ q => XT.lload w.at w.hx rfl hd hl q) k
theorem s_lload_n (w : Wk p l e R s m args below meth c Z EL own h0 ws T h cells slots S) {i : Fin 4} {v : Int64} (hd : decode c.code pc = .ok (.lload_n i, 1)) (hl : Ls[i.val]? = some (.val (.long v))) (hp : pc + 1 = pc') (k : Run p e below Q T (mkF m pc' Ls (.long v :: st))) : Run p e below Q T (mkF m pc Ls st) := by
  subst hp; exact Run.to (fun _ q => XT.lloadN w.at w.hx rfl hd hl q) k
theorem s_aload (w : Wk p l e R s m args below meth c Z EL own h0 ws T h cells slots S) {i : Nat} {v : Value} (hd : decode c.code pc = .ok (.aload i, 2)) (hl : Ls[i]? = some (.val v)) (hv : v.isRef = true) (hp : pc + 2 = pc') (k : Run p e below Q T (mkF m pc' Ls (v :: st))) : Run p e below Q T (mkF m pc Ls st) := by
  subst hp; exact Run.to (fun _ q => XS.aload w.at w.hx rfl hd hl hv q) k
theorem s_aload_n (w : Wk p l e R s m args below meth c Z EL own h0 ws T h cells slots S) {i : Fin 4} {v : Value} (hd : decode c.code pc = .ok (.aload_n i, 1)) (hl : Ls[i.val]? = some (.val v)) (hv : v.isRef = true) (hp : pc + 1 = pc') (k : Run p e below Q T (mkF m pc' Ls (v :: st))) : Run p e below Q T (mkF m pc Ls st) := by
  subst hp; exact Run.to (fun _ q => XS.aloadN w.at w.hx rfl hd hl hv q) k
theorem s_istore (w : Wk p l e R s m args below meth c Z EL own h0 ws T h cells slots S) {i : Nat} {v : Int32} (l' : Array Slot) (hd : decode c.code pc = .ok (.istore i, 2)) (hl : storeLocals Ls i (.int v) = some l') (hp : pc + 2 = pc') (k : Run p e below Q T (mkF m pc' l' st)) : Run p e below Q T (mkF m pc Ls (.int v :: st)) := by
  subst hp; exact Run.to (fun _ q => XS.istore w.at w.hx rfl hd rfl hl q) k
theorem s_istore_n (w : Wk p l e R s m args below meth c Z EL own h0 ws T h cells slots S) {i : Fin 4} {v : Int32} (l' : Array Slot) (hd : decode c.code pc = .ok (.istore_n i, 1)) (hl : storeLocals Ls i.val (.int v) = some l') (hp : pc + 1 = pc') (k : Run p e below Q T (mkF m pc' l' st)) : Run p e below Q T (mkF m pc Ls (.int v :: st)) := by
  subst hp; exact Run.to (fun _ q => XS.istoreN w.at w.hx rfl hd rfl hl q) k
theorem s_lstore (w : Wk p l e R s m args below meth c Z EL own h0 ws T h cells slots S) {i : Nat} {v : Int64} (l' : Array Slot) (hd : decode c.code pc = .ok (.lstore i, 2)) (hl : storeLocals Ls i (.long v) = some l') (hp : pc + 2 = pc') (k : Run p e below Q T (mkF m pc' l' st)) : Run p e below Q T (mkF m pc Ls (.long v :: st)) := by
  subst hp; exact Run.to (fun _ q => XT.lstore w.at w.hx rfl hd rfl hl q) k
theorem s_lstore_n (w : Wk p l e R s m args below meth c Z EL own h0 ws T h cells slots S) {i : Fin 4} {v : Int64} (l' : Array Slot) (hd : decode c.code pc = .ok (.lstore_n i, 1)) (hl : storeLocals Ls i.val (.long v) = some l') (hp : pc + 1 = pc') (k : Run p e below Q T (mkF m pc' l' st)) : Run p e below Q T (mkF m pc Ls (.long v :: st)) := by
  subst hp; exact Run.to (fun _ q => XT.lstoreN w.at w.hx rfl hd rfl hl q) k
theorem s_astore (w : Wk p l e R s m args below meth c Z EL own h0 ws T h cells slots S) {i : Nat} {v : Value} (l' : Array Slot) (hd : decode c.code pc = .ok (.astore i, 2)) (hv : v.isRef = true) (hl : storeLocals Ls i v = some l') (hp : pc + 2 = pc') (k : Run p e below Q T (mkF m pc' l' st)) : Run p e below Q T (mkF m pc Ls (v :: st)) := by
  subst hp; exact Run.to (fun _ q => XS.astore w.at w.hx rfl hd rfl hv hl q) k
theorem s_astore_n (w : Wk p l e R s m args below meth c Z EL own h0 ws T h cells slots S) {i : Fin 4} {v : Value} (l' : Array Slot) (hd : decode c.code pc = .ok (.astore_n i, 1)) (hv : v.isRef = true) (hl : storeLocals Ls i.val v = some l') (hp : pc + 1 = pc') (k : Run p e below Q T (mkF m pc' l' st)) : Run p e below Q T (mkF m pc Ls (v :: st)) := by
  subst hp; exact Run.to (fun _ q => XS.astoreN w.at w.hx rfl hd rfl hv hl q) k
theorem s_iinc (w : Wk p l e R s m args below meth c Z EL own h0 ws T h cells slots S) {i : Nat} {cst : Int} {x v : Int32} (l' : Array Slot) (hd : decode c.code pc = .ok (.iinc i cst, 3)) (hv : Int32.ofInt cst = v) (hl : Ls[i]? = some (.val (.int x))) (hl' : storeLocals Ls i (.int (x + v)) = some l') (hp : pc + 3 = pc') (k : Run p e below Q T (mkF m pc' l' st)) : Run p e below Q T (mkF m pc Ls st) := by
  subst hp; exact Run.to (fun _ q => XT.iincV w.at w.hx rfl v hd hv hl hl' q) k
theorem s_goto (w : Wk p l e R s m args below meth c Z EL own h0 ws T h cells slots S) {o : Int} (hd : decode c.code pc = .ok (.goto o, 3)) (ho : 0 ≤ (pc : Int) + o) (hp : ((pc : Int) + o).toNat = pc') (k : Run p e below Q T (mkF m pc' Ls st)) : Run p e below Q T (mkF m pc Ls st) := by
  exact Run.to (fun _ q => XS.goto w.at w.hx rfl (pc0 := pc) rfl hd ho hp q) k
theorem s_icmp_eq (w : Wk p l e R s m args below meth c Z EL own h0 ws T h cells slots S) {x y : Int32} {o : Int} (hd : decode c.code pc = .ok (.if_icmp .eq o, 3)) (ho : 0 ≤ (pc : Int) + o) (h1 : pc + 3 = pc1) (h2 : ((pc : Int) + o).toNat = pc2) (k1 : ¬ (x = y) → Run p e below Q T (mkF m pc1 Ls rest)) (k2 : x = y → Run p e below Q T (mkF m pc2 Ls rest)) : Run p e below Q T (mkF m pc Ls (.int y :: .int x :: rest)) := by
  subst h1
  by_cases cq : x = y
  · exact Run.to (fun _ q => XS.icmpYes w.at w.hx rfl (pc0 := pc) rfl hd rfl (XT.ii_eq_t cq) ho h2 q) (k2 cq)
  · exact Run.to (fun _ q => XS.icmpNo w.at w.hx rfl hd rfl (XT.ii_eq_f cq) q) (k1 cq)
theorem s_icmp_ne (w : Wk p l e R s m args below meth c Z EL own h0 ws T h cells slots S) {x y : Int32} {o : Int} (hd : decode c.code pc = .ok (.if_icmp .ne o, 3)) (ho : 0 ≤ (pc : Int) + o) (h1 : pc + 3 = pc1) (h2 : ((pc : Int) + o).toNat = pc2) (k1 : x = y → Run p e below Q T (mkF m pc1 Ls rest)) (k2 : ¬ (x = y) → Run p e below Q T (mkF m pc2 Ls rest)) : Run p e below Q T (mkF m pc Ls (.int y :: .int x :: rest)) := by
  subst h1
  by_cases cq : x = y
  · exact Run.to (fun _ q => XS.icmpNo w.at w.hx rfl hd rfl (XT.ii_ne_f cq) q) (k1 cq)
  · exact Run.to (fun _ q => XS.icmpYes w.at w.hx rfl (pc0 := pc) rfl hd rfl (XT.ii_ne_t cq) ho h2 q) (k2 cq)
theorem s_icmp_lt (w : Wk p l e R s m args below meth c Z EL own h0 ws T h cells slots S) {x y : Int32} {o : Int} (hd : decode c.code pc = .ok (.if_icmp .lt o, 3)) (ho : 0 ≤ (pc : Int) + o) (h1 : pc + 3 = pc1) (h2 : ((pc : Int) + o).toNat = pc2) (k1 : ¬ (x < y) → Run p e below Q T (mkF m pc1 Ls rest)) (k2 : x < y → Run p e below Q T (mkF m pc2 Ls rest)) : Run p e below Q T (mkF m pc Ls (.int y :: .int x :: rest)) := by
  subst h1
  by_cases cq : x < y
  · exact Run.to (fun _ q => XS.icmpYes w.at w.hx rfl (pc0 := pc) rfl hd rfl (XT.ii_lt_t cq) ho h2 q) (k2 cq)
  · exact Run.to (fun _ q => XS.icmpNo w.at w.hx rfl hd rfl (XT.ii_lt_f cq) q) (k1 cq)
theorem s_icmp_ge (w : Wk p l e R s m args below meth c Z EL own h0 ws T h cells slots S) {x y : Int32} {o : Int} (hd : decode c.code pc = .ok (.if_icmp .ge o, 3)) (ho : 0 ≤ (pc : Int) + o) (h1 : pc + 3 = pc1) (h2 : ((pc : Int) + o).toNat = pc2) (k1 : x < y → Run p e below Q T (mkF m pc1 Ls rest)) (k2 : ¬ (x < y) → Run p e below Q T (mkF m pc2 Ls rest)) : Run p e below Q T (mkF m pc Ls (.int y :: .int x :: rest)) := by
  subst h1
  by_cases cq : x < y
  · exact Run.to (fun _ q => XS.icmpNo w.at w.hx rfl hd rfl (XT.ii_ge_f cq) q) (k1 cq)
  · exact Run.to (fun _ q => XS.icmpYes w.at w.hx rfl (pc0 := pc) rfl hd rfl (XT.ii_ge_t cq) ho h2 q) (k2 cq)
theorem s_icmp_gt (w : Wk p l e R s m args below meth c Z EL own h0 ws T h cells slots S) {x y : Int32} {o : Int} (hd : decode c.code pc = .ok (.if_icmp .gt o, 3)) (ho : 0 ≤ (pc : Int) + o) (h1 : pc + 3 = pc1) (h2 : ((pc : Int) + o).toNat = pc2) (k1 : ¬ (y < x) → Run p e below Q T (mkF m pc1 Ls rest)) (k2 : y < x → Run p e below Q T (mkF m pc2 Ls rest)) : Run p e below Q T (mkF m pc Ls (.int y :: .int x :: rest)) := by
  subst h1
  by_cases cq : y < x
  · exact Run.to (fun _ q => XS.icmpYes w.at w.hx rfl (pc0 := pc) rfl hd rfl (XT.ii_gt_t cq) ho h2 q) (k2 cq)
  · exact Run.to (fun _ q => XS.icmpNo w.at w.hx rfl hd rfl (XT.ii_gt_f cq) q) (k1 cq)
theorem s_icmp_le (w : Wk p l e R s m args below meth c Z EL own h0 ws T h cells slots S) {x y : Int32} {o : Int} (hd : decode c.code pc = .ok (.if_icmp .le o, 3)) (ho : 0 ≤ (pc : Int) + o) (h1 : pc + 3 = pc1) (h2 : ((pc : Int) + o).toNat = pc2) (k1 : y < x → Run p e below Q T (mkF m pc1 Ls rest)) (k2 : ¬ (y < x) → Run p e below Q T (mkF m pc2 Ls rest)) : Run p e below Q T (mkF m pc Ls (.int y :: .int x :: rest)) := by
  subst h1
  by_cases cq : y < x
  · exact Run.to (fun _ q => XS.icmpNo w.at w.hx rfl hd rfl (XT.ii_le_f cq) q) (k1 cq)
  · exact Run.to (fun _ q => XS.icmpYes w.at w.hx rfl (pc0 := pc) rfl hd rfl (XT.ii_le_t cq) ho h2 q) (k2 cq)
theorem s_if_eq (w : Wk p l e R s m args below meth c Z EL own h0 ws T h cells slots S) {x : Int32} {o : Int} (hd : decode c.code pc = .ok (.ifCond .eq o, 3)) (ho : 0 ≤ (pc : Int) + o) (h1 : pc + 3 = pc1) (h2 : ((pc : Int) + o).toNat = pc2) (k1 : ¬ (x = 0) → Run p e below Q T (mkF m pc1 Ls rest)) (k2 : x = 0 → Run p e below Q T (mkF m pc2 Ls rest)) : Run p e below Q T (mkF m pc Ls (.int x :: rest)) := by
  subst h1
  by_cases cq : x = 0
  · exact Run.to (fun _ q => XS.ifYes w.at w.hx rfl (pc0 := pc) rfl hd rfl (XT.i0_eq_t cq) ho h2 q) (k2 cq)
  · exact Run.to (fun _ q => XS.ifNo w.at w.hx rfl hd rfl (XT.i0_eq_f cq) q) (k1 cq)
theorem s_if_ne (w : Wk p l e R s m args below meth c Z EL own h0 ws T h cells slots S) {x : Int32} {o : Int} (hd : decode c.code pc = .ok (.ifCond .ne o, 3)) (ho : 0 ≤ (pc : Int) + o) (h1 : pc + 3 = pc1) (h2 : ((pc : Int) + o).toNat = pc2) (k1 : x = 0 → Run p e below Q T (mkF m pc1 Ls rest)) (k2 : ¬ (x = 0) → Run p e below Q T (mkF m pc2 Ls rest)) : Run p e below Q T (mkF m pc Ls (.int x :: rest)) := by
  subst h1
  by_cases cq : x = 0
  · exact Run.to (fun _ q => XS.ifNo w.at w.hx rfl hd rfl (XT.i0_ne_f cq) q) (k1 cq)
  · exact Run.to (fun _ q => XS.ifYes w.at w.hx rfl (pc0 := pc) rfl hd rfl (XT.i0_ne_t cq) ho h2 q) (k2 cq)
theorem s_if_lt (w : Wk p l e R s m args below meth c Z EL own h0 ws T h cells slots S) {x : Int32} {o : Int} (hd : decode c.code pc = .ok (.ifCond .lt o, 3)) (ho : 0 ≤ (pc : Int) + o) (h1 : pc + 3 = pc1) (h2 : ((pc : Int) + o).toNat = pc2) (k1 : ¬ (x < 0) → Run p e below Q T (mkF m pc1 Ls rest)) (k2 : x < 0 → Run p e below Q T (mkF m pc2 Ls rest)) : Run p e below Q T (mkF m pc Ls (.int x :: rest)) := by
  subst h1
  by_cases cq : x < 0
  · exact Run.to (fun _ q => XS.ifYes w.at w.hx rfl (pc0 := pc) rfl hd rfl (XT.i0_lt_t cq) ho h2 q) (k2 cq)
  · exact Run.to (fun _ q => XS.ifNo w.at w.hx rfl hd rfl (XT.i0_lt_f cq) q) (k1 cq)
theorem s_if_ge (w : Wk p l e R s m args below meth c Z EL own h0 ws T h cells slots S) {x : Int32} {o : Int} (hd : decode c.code pc = .ok (.ifCond .ge o, 3)) (ho : 0 ≤ (pc : Int) + o) (h1 : pc + 3 = pc1) (h2 : ((pc : Int) + o).toNat = pc2) (k1 : x < 0 → Run p e below Q T (mkF m pc1 Ls rest)) (k2 : ¬ (x < 0) → Run p e below Q T (mkF m pc2 Ls rest)) : Run p e below Q T (mkF m pc Ls (.int x :: rest)) := by
  subst h1
  by_cases cq : x < 0
  · exact Run.to (fun _ q => XS.ifNo w.at w.hx rfl hd rfl (XT.i0_ge_f cq) q) (k1 cq)
  · exact Run.to (fun _ q => XS.ifYes w.at w.hx rfl (pc0 := pc) rfl hd rfl (XT.i0_ge_t cq) ho h2 q) (k2 cq)
theorem s_if_gt (w : Wk p l e R s m args below meth c Z EL own h0 ws T h cells slots S) {x : Int32} {o : Int} (hd : decode c.code pc = .ok (.ifCond .gt o, 3)) (ho : 0 ≤ (pc : Int) + o) (h1 : pc + 3 = pc1) (h2 : ((pc : Int) + o).toNat = pc2) (k1 : ¬ (0 < x) → Run p e below Q T (mkF m pc1 Ls rest)) (k2 : 0 < x → Run p e below Q T (mkF m pc2 Ls rest)) : Run p e below Q T (mkF m pc Ls (.int x :: rest)) := by
  subst h1
  by_cases cq : 0 < x
  · exact Run.to (fun _ q => XS.ifYes w.at w.hx rfl (pc0 := pc) rfl hd rfl (XT.i0_gt_t cq) ho h2 q) (k2 cq)
  · exact Run.to (fun _ q => XS.ifNo w.at w.hx rfl hd rfl (XT.i0_gt_f cq) q) (k1 cq)
theorem s_if_le (w : Wk p l e R s m args below meth c Z EL own h0 ws T h cells slots S) {x : Int32} {o : Int} (hd : decode c.code pc = .ok (.ifCond .le o, 3)) (ho : 0 ≤ (pc : Int) + o) (h1 : pc + 3 = pc1) (h2 : ((pc : Int) + o).toNat = pc2) (k1 : 0 < x → Run p e below Q T (mkF m pc1 Ls rest)) (k2 : ¬ (0 < x) → Run p e below Q T (mkF m pc2 Ls rest)) : Run p e below Q T (mkF m pc Ls (.int x :: rest)) := by
  subst h1
  by_cases cq : 0 < x
  · exact Run.to (fun _ q => XS.ifNo w.at w.hx rfl hd rfl (XT.i0_le_f cq) q) (k1 cq)
  · exact Run.to (fun _ q => XS.ifYes w.at w.hx rfl (pc0 := pc) rfl hd rfl (XT.i0_le_t cq) ho h2 q) (k2 cq)
theorem s_lif_eq (w : Wk p l e R s m args below meth c Z EL own h0 ws T h cells slots S) {x y : Int64} {o : Int} (hd : decode c.code pc = .ok (.ifCond .eq o, 3)) (ho : 0 ≤ (pc : Int) + o) (h1 : pc + 3 = pc1) (h2 : ((pc : Int) + o).toNat = pc2) (k1 : ¬ (x = y) → Run p e below Q T (mkF m pc1 Ls rest)) (k2 : x = y → Run p e below Q T (mkF m pc2 Ls rest)) : Run p e below Q T (mkF m pc Ls (.int (XT.cmpL x y) :: rest)) := by
  subst h1
  by_cases cq : x = y
  · exact Run.to (fun _ q => XS.ifYes w.at w.hx rfl (pc0 := pc) rfl hd rfl (XT.ll_eq_t cq) ho h2 q) (k2 cq)
  · exact Run.to (fun _ q => XS.ifNo w.at w.hx rfl hd rfl (XT.ll_eq_f cq) q) (k1 cq)
theorem s_lif_ne (w : Wk p l e R s m args below meth c Z EL own h0 ws T h cells slots S) {x y : Int64} {o : Int} (hd : decode c.code pc = .ok (.ifCond .ne o, 3)) (ho : 0 ≤ (pc : Int) + o) (h1 : pc + 3 = pc1) (h2 : ((pc : Int) + o).toNat = pc2) (k1 : x = y → Run p e below Q T (mkF m pc1 Ls rest)) (k2 : ¬ (x = y) → Run p e below Q T (mkF m pc2 Ls rest)) : Run p e below Q T (mkF m pc Ls (.int (XT.cmpL x y) :: rest)) := by
  subst h1
  by_cases cq : x = y
  · exact Run.to (fun _ q => XS.ifNo w.at w.hx rfl hd rfl (XT.ll_ne_f cq) q) (k1 cq)
  · exact Run.to (fun _ q => XS.ifYes w.at w.hx rfl (pc0 := pc) rfl hd rfl (XT.ll_ne_t cq) ho h2 q) (k2 cq)
theorem s_lif_lt (w : Wk p l e R s m args below meth c Z EL own h0 ws T h cells slots S) {x y : Int64} {o : Int} (hd : decode c.code pc = .ok (.ifCond .lt o, 3)) (ho : 0 ≤ (pc : Int) + o) (h1 : pc + 3 = pc1) (h2 : ((pc : Int) + o).toNat = pc2) (k1 : ¬ (x < y) → Run p e below Q T (mkF m pc1 Ls rest)) (k2 : x < y → Run p e below Q T (mkF m pc2 Ls rest)) : Run p e below Q T (mkF m pc Ls (.int (XT.cmpL x y) :: rest)) := by
  subst h1
  by_cases cq : x < y
  · exact Run.to (fun _ q => XS.ifYes w.at w.hx rfl (pc0 := pc) rfl hd rfl (XT.ll_lt_t cq) ho h2 q) (k2 cq)
  · exact Run.to (fun _ q => XS.ifNo w.at w.hx rfl hd rfl (XT.ll_lt_f cq) q) (k1 cq)
theorem s_lif_ge (w : Wk p l e R s m args below meth c Z EL own h0 ws T h cells slots S) {x y : Int64} {o : Int} (hd : decode c.code pc = .ok (.ifCond .ge o, 3)) (ho : 0 ≤ (pc : Int) + o) (h1 : pc + 3 = pc1) (h2 : ((pc : Int) + o).toNat = pc2) (k1 : x < y → Run p e below Q T (mkF m pc1 Ls rest)) (k2 : ¬ (x < y) → Run p e below Q T (mkF m pc2 Ls rest)) : Run p e below Q T (mkF m pc Ls (.int (XT.cmpL x y) :: rest)) := by
  subst h1
  by_cases cq : x < y
  · exact Run.to (fun _ q => XS.ifNo w.at w.hx rfl hd rfl (XT.ll_ge_f cq) q) (k1 cq)
  · exact Run.to (fun _ q => XS.ifYes w.at w.hx rfl (pc0 := pc) rfl hd rfl (XT.ll_ge_t cq) ho h2 q) (k2 cq)
theorem s_lif_gt (w : Wk p l e R s m args below meth c Z EL own h0 ws T h cells slots S) {x y : Int64} {o : Int} (hd : decode c.code pc = .ok (.ifCond .gt o, 3)) (ho : 0 ≤ (pc : Int) + o) (h1 : pc + 3 = pc1) (h2 : ((pc : Int) + o).toNat = pc2) (k1 : ¬ (y < x) → Run p e below Q T (mkF m pc1 Ls rest)) (k2 : y < x → Run p e below Q T (mkF m pc2 Ls rest)) : Run p e below Q T (mkF m pc Ls (.int (XT.cmpL x y) :: rest)) := by
  subst h1
  by_cases cq : y < x
  · exact Run.to (fun _ q => XS.ifYes w.at w.hx rfl (pc0 := pc) rfl hd rfl (XT.ll_gt_t cq) ho h2 q) (k2 cq)
  · exact Run.to (fun _ q => XS.ifNo w.at w.hx rfl hd rfl (XT.ll_gt_f cq) q) (k1 cq)
theorem s_lif_le (w : Wk p l e R s m args below meth c Z EL own h0 ws T h cells slots S) {x y : Int64} {o : Int} (hd : decode c.code pc = .ok (.ifCond .le o, 3)) (ho : 0 ≤ (pc : Int) + o) (h1 : pc + 3 = pc1) (h2 : ((pc : Int) + o).toNat = pc2) (k1 : y < x → Run p e below Q T (mkF m pc1 Ls rest)) (k2 : ¬ (y < x) → Run p e below Q T (mkF m pc2 Ls rest)) : Run p e below Q T (mkF m pc Ls (.int (XT.cmpL x y) :: rest)) := by
  subst h1
  by_cases cq : y < x
  · exact Run.to (fun _ q => XS.ifNo w.at w.hx rfl hd rfl (XT.ll_le_f cq) q) (k1 cq)
  · exact Run.to (fun _ q => XS.ifYes w.at w.hx rfl (pc0 := pc) rfl hd rfl (XT.ll_le_t cq) ho h2 q) (k2 cq)
theorem s_acmp_eq (w : Wk p l e R s m args below meth c Z EL own h0 ws T h cells slots S) {x y : Value} {o : Int} (hd : decode c.code pc = .ok (.if_acmp .eq o, 3)) (hx' : x.isRef = true) (hy' : y.isRef = true) (ho : 0 ≤ (pc : Int) + o) (h1 : pc + 3 = pc1) (h2 : ((pc : Int) + o).toNat = pc2) (k1 : ¬ (x = y) → Run p e below Q T (mkF m pc1 Ls rest)) (k2 : x = y → Run p e below Q T (mkF m pc2 Ls rest)) : Run p e below Q T (mkF m pc Ls (y :: x :: rest)) := by
  subst h1
  by_cases cq : x = y
  · exact Run.to (fun _ q => XT.acmpYes w.at w.hx rfl (pc0 := pc) rfl hd rfl hx' hy' (XT.aa_eq_t cq) ho h2 q) (k2 cq)
  · exact Run.to (fun _ q => XT.acmpNo w.at w.hx rfl hd rfl hx' hy' (XT.aa_eq_f cq) q) (k1 cq)
theorem s_acmp_ne (w : Wk p l e R s m args below meth c Z EL own h0 ws T h cells slots S) {x y : Value} {o : Int} (hd : decode c.code pc = .ok (.if_acmp .ne o, 3)) (hx' : x.isRef = true) (hy' : y.isRef = true) (ho : 0 ≤ (pc : Int) + o) (h1 : pc + 3 = pc1) (h2 : ((pc : Int) + o).toNat = pc2) (k1 : x = y → Run p e below Q T (mkF m pc1 Ls rest)) (k2 : ¬ (x = y) → Run p e below Q T (mkF m pc2 Ls rest)) : Run p e below Q T (mkF m pc Ls (y :: x :: rest)) := by
  subst h1
  by_cases cq : x = y
  · exact Run.to (fun _ q => XT.acmpNo w.at w.hx rfl hd rfl hx' hy' (XT.aa_ne_f cq) q) (k1 cq)
  · exact Run.to (fun _ q => XT.acmpYes w.at w.hx rfl (pc0 := pc) rfl hd rfl hx' hy' (XT.aa_ne_t cq) ho h2 q) (k2 cq)
theorem s_ifnull_no (w : Wk p l e R s m args below meth c Z EL own h0 ws T h cells slots S) {b : Addr} {o : Int} (hd : decode c.code pc = .ok (.ifnull o, 3)) (hp : pc + 3 = pc') (k : Run p e below Q T (mkF m pc' Ls rest)) : Run p e below Q T (mkF m pc Ls (.ref b :: rest)) := by
  subst hp; exact Run.to (fun _ q => XS.ifnullNo w.at w.hx rfl hd rfl q) k
theorem s_ifnull_yes (w : Wk p l e R s m args below meth c Z EL own h0 ws T h cells slots S) {o : Int} (hd : decode c.code pc = .ok (.ifnull o, 3)) (ho : 0 ≤ (pc : Int) + o) (hp : ((pc : Int) + o).toNat = pc') (k : Run p e below Q T (mkF m pc' Ls rest)) : Run p e below Q T (mkF m pc Ls (.null :: rest)) :=
  Run.to (fun _ q => XS.ifnullYes w.at w.hx rfl (pc0 := pc) rfl hd rfl ho hp q) k
theorem s_ifnonnull_yes (w : Wk p l e R s m args below meth c Z EL own h0 ws T h cells slots S) {b : Addr} {o : Int} (hd : decode c.code pc = .ok (.ifnonnull o, 3)) (ho : 0 ≤ (pc : Int) + o) (hp : ((pc : Int) + o).toNat = pc') (k : Run p e below Q T (mkF m pc' Ls rest)) : Run p e below Q T (mkF m pc Ls (.ref b :: rest)) :=
  Run.to (fun _ q => XT.ifnonnullYes w.at w.hx rfl (pc0 := pc) rfl hd rfl ho hp q) k
theorem s_ifnonnull_no (w : Wk p l e R s m args below meth c Z EL own h0 ws T h cells slots S) {o : Int} (hd : decode c.code pc = .ok (.ifnonnull o, 3)) (hp : pc + 3 = pc') (k : Run p e below Q T (mkF m pc' Ls rest)) : Run p e below Q T (mkF m pc Ls (.null :: rest)) := by
  subst hp; exact Run.to (fun _ q => XT.ifnonnullNo w.at w.hx rfl hd rfl q) k


/-! steps that read the tables or the heap -/
theorem w_getF (w : Wk p l e R s m args below meth c Z EL own h0 ws T h cells slots S) {R0 O n d : String} {index : Nat} (wl : (Jvm.Cond.fieldLink own index R0 n d).before a0 Z = true) (via : Via Z R0 O n d) {a : Addr} {v : Value} (F : Fld Z h a O n d v) (hd : decode c.code pc = .ok (.getfield index, 3)) (hp : pc + 3 = pc')
    (k : ∀ T', Wk p l e R s m args below meth c Z EL own h0 ws T' h cells slots S → Run p e below Q T' (mkF m pc' Ls (v :: rest))) : Run p e below Q T (mkF m pc Ls (.ref a :: rest)) := by
  obtain ⟨vm0, k0, locs, hx, X, eT, r⟩ := w
  obtain ⟨T', X', e', stp⟩ := getF X hx r.hZ (host := "") r.ow (Or.inl wl) via eT F (g := mkF m pc Ls (.ref a :: rest)) rfl rfl hd
  subst hp
  exact Run.to stp (k T' ⟨vm0, k0, locs, hx, X', e', r⟩)
theorem w_getS (w : Wk p l e R s m args below meth c Z EL own h0 ws T h cells slots S) {R0 O n d : String} {index : Nat} (wl : (Jvm.Cond.fieldLink own index R0 n d).before a0 Z = true) (via : Via Z R0 O n d) {v : Value} (F : Sta Z h O n d v) (hd : decode c.code pc = .ok (.getstatic index, 3)) (hp : pc + 3 = pc')
    (k : ∀ T', Wk p l e R s m args below meth c Z EL own h0 ws T' h cells slots S → Run p e below Q T' (mkF m pc' Ls (v :: st))) : Run p e below Q T (mkF m pc Ls st) := by
  obtain ⟨vm0, k0, locs, hx, X, eT, r⟩ := w
  obtain ⟨T', X', e', stp⟩ := getS (host := "") X hx r.hZ r.ow wl via eT F (g := mkF m pc Ls st) rfl hd
  subst hp
  exact Run.to stp (k T' ⟨vm0, k0, locs, hx, X', e', r⟩)
theorem w_cast (w : Wk p l e R s m args below meth c Z EL own h0 ws T h cells slots S) {K : String} {index : Nat} (wl : (Jvm.Cond.classLink own index K).before a0 Z = true) {a : Addr} (F : Ins Z h a K true) (hd : decode c.code pc = .ok (.checkcast index, 3)) (hp : pc + 3 = pc')
    (k : ∀ T', Wk p l e R s m args below meth c Z EL own h0 ws T' h cells slots S → Run p e below Q T' (mkF m pc' Ls (.ref a :: rest))) : Run p e below Q T (mkF m pc Ls (.ref a :: rest)) := by
  obtain ⟨vm0, k0, locs, hx, X, eT, r⟩ := w
  obtain ⟨T', X', e', stp⟩ := castY X hx r.hZ r.ow wl eT F (g := mkF m pc Ls (.ref a :: rest)) rfl rfl hd
  subst hp
  exact Run.to stp (k T' ⟨vm0, k0, locs, hx, X', e', r⟩)
theorem w_inst (w : Wk p l e R s m args below meth c Z EL own h0 ws T h cells slots S) {K : String} {index : Nat} (wl : (Jvm.Cond.classLink own index K).before a0 Z = true) {a : Addr} (F : Ins Z h a K true) (hd : decode c.code pc = .ok (.instanceof index, 3)) (hp : pc + 3 = pc')
    (k : ∀ T', Wk p l e R s m args below meth c Z EL own h0 ws T' h cells slots S → Run p e below Q T' (mkF m pc' Ls (.int 1 :: rest))) : Run p e below Q T (mkF m pc Ls (.ref a :: rest)) := by
  obtain ⟨vm0, k0, locs, hx, X, eT, r⟩ := w
  obtain ⟨T', X', e', stp⟩ := instY X hx r.hZ r.ow wl eT F (g := mkF m pc Ls (.ref a :: rest)) rfl rfl hd
  subst hp
  exact Run.to stp (k T' ⟨vm0, k0, locs, hx, X', e', r⟩)
theorem w_instNo (w : Wk p l e R s m args below meth c Z EL own h0 ws T h cells slots S) {K C : String} {index : Nat} (wl : (Jvm.Cond.classLink own index K).before a0 Z = true) {a : Addr} (E : Exa Z h a C) (F : ∃ c t, Z.vm.findClass C = some c ∧ Z.vm.findClass K = some t ∧ Z.vm.assignable c t = false) (hd : decode c.code pc = .ok (.instanceof index, 3)) (hp : pc + 3 = pc')
    (k : ∀ T', Wk p l e R s m args below meth c Z EL own h0 ws T' h cells slots S → Run p e below Q T' (mkF m pc' Ls (.int 0 :: rest))) : Run p e below Q T (mkF m pc Ls (.ref a :: rest)) := by
  obtain ⟨vm0, k0, locs, hx, X, eT, r⟩ := w
  obtain ⟨T', X', e', stp⟩ := instNo X hx r.hZ r.ow wl eT E F (g := mkF m pc Ls (.ref a :: rest)) rfl rfl hd
  subst hp
  exact Run.to stp (k T' ⟨vm0, k0, locs, hx, X', e', r⟩)
theorem w_instNull (w : Wk p l e R s m args below meth c Z EL own h0 ws T h cells slots S) {index : Nat} (hd : decode c.code pc = .ok (.instanceof index, 3)) (hp : pc + 3 = pc') (k : Run p e below Q T (mkF m pc' Ls (.int 0 :: rest))) : Run p e below Q T (mkF m pc Ls (.null :: rest)) := by
  obtain ⟨vm0, k0, locs, hx, X, eT, r⟩ := w
  subst hp
  exact Run.to (X.instanceofNull hx (g := mkF m pc Ls (.null :: rest)) rfl rfl hd) k
theorem w_castNull (w : Wk p l e R s m args below meth c Z EL own h0 ws T h cells slots S) {index : Nat} (hd : decode c.code pc = .ok (.checkcast index, 3)) (hp : pc + 3 = pc') (k : Run p e below Q T (mkF m pc' Ls (.null :: rest))) : Run p e below Q T (mkF m pc Ls (.null :: rest)) := by
  obtain ⟨vm0, k0, locs, hx, X, eT, r⟩ := w
  subst hp
  exact Run.to (X.checkcastNull hx (g := mkF m pc Ls (.null :: rest)) rfl rfl hd) k
theorem w_new (w : Wk p l e R s m args below meth c Z EL own h0 ws T h cells slots S) {C : String} {index n : Nat} (wl : (Jvm.Cond.classLink own index C).before a0 Z = true) (wi : (Jvm.Cond.instantiable C n).before a0 Z = true) (wz : (Jvm.Cond.initialized C).before a0 Z = true) (hd : decode c.code pc = .ok (.new index, 3)) (hp : pc + 3 = pc') (hc : cells + 1 ≤ R.cells) (hl : slots + n ≤ R.slots)
    (k : ∀ T' h' x, Wk p l e R s m args below meth c Z EL own h0 ws T' h' (cells + 1) (slots + n) (x :: S) → Ext h h' → h.size ≤ x → h0.size ≤ x → Exa Z h' x C → (∀ {O nm d : String} {ty : FieldType}, Laid Z a0 C O nm d → parseFieldDescriptor d = some ty → Fld Z h' x O nm d (defaultValue ty)) → Run p e below Q T' (mkF m pc' Ls (.ref x :: st))) : Run p e below Q T (mkF m pc Ls st) := by
  obtain ⟨vm0, k0, locs, hx, X, eT, r⟩ := w
  obtain ⟨T', h', X', e', E, A, D, -, stp⟩ := newO X hx r.hZ r.ow wl wi wz eT (g := mkF m pc Ls st) rfl hd hc hl
  subst hp
  exact Run.to stp (k T' h' h.size ⟨vm0, k0, locs, hx, X', e', r.add E (Nat.le_refl _) A.lt⟩ E (Nat.le_refl _) r.keep.1 A D)
/-- a new array of a primitive kind: its n places hold their first value -/
theorem w_newP (w : Wk p l e R s m args below meth c Z EL own h0 ws T h cells slots S) {aty : ArrayType} {ty : FieldType} {z : Int32} {n : Nat} {dv : Value} (wl : (Jvm.Cond.arrayClass ty).before a0 Z = true) (hty : newarray.typeOf aty = ty) (hdv : defaultValue ty = dv) (hd : decode c.code pc = .ok (.newarray aty, 2)) (hz : ¬ z < 0) (hn : z.toNatClampNeg ≤ n) (hb : n * 8 ≤ 536870912) (hp : pc + 2 = pc') (hc : cells + 1 ≤ R.cells) (hl : slots + n ≤ R.slots)
    (k : ∀ T' h' x ka, Wk p l e R s m args below meth c Z EL own h0 ws T' h' (cells + 1) (slots + n) (x :: S) → Ext h h' → h.size ≤ x → h0.size ≤ x → Arv Z h' x ka ty z (List.replicate n dv) dv → Run p e below Q T' (mkF m pc' Ls (.ref x :: rest))) : Run p e below Q T (mkF m pc Ls (.int z :: rest)) := by
  obtain ⟨vm0, k0, locs, hx, X, eT, r⟩ := w
  subst hty hdv hp
  obtain ⟨T', h', kA, X', e', E, A, stp⟩ := newP X hx r.hZ wl eT (g := mkF m pc Ls (.int z :: rest)) rfl hd rfl hz hn hb hc hl
  have V := (Arv.new A hz).pad (pad_rep [] _ n)
  exact Run.to stp (k T' h' h.size kA ⟨vm0, k0, locs, hx, X', e', r.add E (Nat.le_refl _) A.lt⟩ E (Nat.le_refl _) r.keep.1 V)
theorem w_stC (w : Wk p l e R s m args below meth c Z EL own h0 ws T h cells slots S) {a : Addr} {ka : ClassId} {z j x x' : Int32} {vs : List Value} {dv : Value} (V : Arv Z h a ka .char z vs dv) {i : Nat} (hj : ¬ j < 0) (hi : j.toNatClampNeg = i) (hiz : i < z.toNatClampNeg) (hiv : i < vs.length) (hx' : nar .char x = x') (hd : decode c.code pc = .ok (.castore, 1)) (q : a ∈ ws ∨ h0.size ≤ a) (hp : pc + 1 = pc')
    (k : ∀ T' h', Wk p l e R s m args below meth c Z EL own h0 ws T' h' cells slots S → Wr h h' a i (.int x') → Arv Z h' a ka .char z (vs.set i (.int x')) dv → Run p e below Q T' (mkF m pc' Ls rest)) : Run p e below Q T (mkF m pc Ls (.int x :: .int j :: .ref a :: rest)) := by
  obtain ⟨vm0, k0, locs, hx, X, eT, r⟩ := w
  obtain ⟨cl, A, q1, q2, q3, q4, q5⟩ := V
  have hin : ¬ (j < 0 ∨ cl.slots.size ≤ j.toNatClampNeg) := by rw [q2, hi]; rintro (z | z); exact hj z; omega
  obtain ⟨T', h', X', e', Wq, stp⟩ := stC X hx r.hZ eT A hin (g := mkF m pc Ls (.int x :: .int j :: .ref a :: rest)) rfl rfl hd
  subst hp hx'
  have V' := Arv.set A q1 q2 q3 q4 q5 (fits_nar_char x) Wq i hi hiv
  rw [hi] at Wq
  have r' := r.wr Wq (Safe.arr r.hZ.alike A (by decide)) q
  rw [hi] at X'
  exact Run.to stp (k T' h' ⟨vm0, k0, _, hx, X', e', r'⟩ Wq V')
theorem w_stB (w : Wk p l e R s m args below meth c Z EL own h0 ws T h cells slots S) {a : Addr} {ka : ClassId} {z j x x' : Int32} {vs : List Value} {dv : Value} (V : Arv Z h a ka .byte z vs dv) {i : Nat} (hj : ¬ j < 0) (hi : j.toNatClampNeg = i) (hiz : i < z.toNatClampNeg) (hiv : i < vs.length) (hx' : nar .byte x = x') (hd : decode c.code pc = .ok (.bastore, 1)) (q : a ∈ ws ∨ h0.size ≤ a) (hS : a ∈ S) (hp : pc + 1 = pc')
    (k : ∀ T' h', Wk p l e R s m args below meth c Z EL own h0 ws T' h' cells slots S → Wr h h' a i (.int x') → Arv Z h' a ka .byte z (vs.set i (.int x')) dv → Run p e below Q T' (mkF m pc' Ls rest)) : Run p e below Q T (mkF m pc Ls (.int x :: .int j :: .ref a :: rest)) := by
  obtain ⟨vm0, k0, locs, hx, X, eT, r⟩ := w
  obtain ⟨cl, A, q1, q2, q3, q4, q5⟩ := V
  have hin : ¬ (j < 0 ∨ cl.slots.size ≤ j.toNatClampNeg) := by rw [q2, hi]; rintro (z | z); exact hj z; omega
  obtain ⟨T', h', X', e', Wq, stp⟩ := stB X hx r.hZ eT A hin (g := mkF m pc Ls (.int x :: .int j :: .ref a :: rest)) rfl rfl hd
  subst hp hx'
  have V' := Arv.set A q1 q2 q3 q4 q5 (fits_nar_byte x) Wq i hi hiv
  rw [hi] at Wq
  have r' := r.wr Wq (r.2.2.2.2.2.2.2.2.2 a hS).2 q
  rw [hi] at X'
  exact Run.to stp (k T' h' ⟨vm0, k0, _, hx, X', e', r'⟩ Wq V')
theorem w_len (w : Wk p l e R s m args below meth c Z EL own h0 ws T h cells slots S) {a : Addr} {ka : ClassId} {ty : FieldType} {z : Int32} {vs : List Value} {dv : Value} (V : Arv Z h a ka ty z vs dv) (hd : decode c.code pc = .ok (.arraylength, 1)) (hp : pc + 1 = pc')
    (k : Run p e below Q T (mkF m pc' Ls (.int z :: rest))) : Run p e below Q T (mkF m pc Ls (.ref a :: rest)) := by
  obtain ⟨vm0, k0, locs, hx, X, eT, r⟩ := w
  obtain ⟨cl, A, q1, q2, q3, q4, q5⟩ := V
  subst hp
  rw [← len_of q2 q3] at k
  exact Run.to (X.arraylength hx (by rw [eT]; exact A.1) (State.isArrayOf_alike r.hZ.alike A.2.1) (g := mkF m pc Ls (.ref a :: rest)) rfl rfl hd) k
theorem w_ldC (w : Wk p l e R s m args below meth c Z EL own h0 ws T h cells slots S) {a : Addr} {ka : ClassId} {z j : Int32} {vs : List Value} {dv v : Value} (V : Arv Z h a ka .char z vs dv) {i : Nat} (hj : ¬ j < 0) (hi : j.toNatClampNeg = i) (hiz : i < z.toNatClampNeg) (hv : vs.getD i dv = v) (hd : decode c.code pc = .ok (.caload, 1)) (hp : pc + 1 = pc')
    (k : Run p e below Q T (mkF m pc' Ls (v :: rest))) : Run p e below Q T (mkF m pc Ls (.int j :: .ref a :: rest)) := by
  obtain ⟨vm0, k0, locs, hx, X, eT, r⟩ := w
  obtain ⟨cl, A, q1, q2, q3, q4, q5⟩ := V
  have hin : ¬ (j < 0 ∨ cl.slots.size ≤ j.toNatClampNeg) := by rw [q2, hi]; rintro (z | z); exact hj z; omega
  subst hp
  exact Run.to (X.caload hx (j := j) (v := v) (by rw [eT]; exact A.1) (State.isArrayOf_alike r.hZ.alike A.2.1) A.2.2 hin (q4.at hin (by rw [hi]; exact hv)) (g := mkF m pc Ls (.int j :: .ref a :: rest)) rfl rfl hd) k
theorem w_ldB (w : Wk p l e R s m args below meth c Z EL own h0 ws T h cells slots S) {a : Addr} {ka : ClassId} {z j : Int32} {vs : List Value} {dv v : Value} (V : Arv Z h a ka .byte z vs dv) {i : Nat} (hj : ¬ j < 0) (hi : j.toNatClampNeg = i) (hiz : i < z.toNatClampNeg) (hv : vs.getD i dv = v) (hd : decode c.code pc = .ok (.baload, 1)) (hp : pc + 1 = pc')
    (k : Run p e below Q T (mkF m pc' Ls (v :: rest))) : Run p e below Q T (mkF m pc Ls (.int j :: .ref a :: rest)) := by
  obtain ⟨vm0, k0, locs, hx, X, eT, r⟩ := w
  obtain ⟨cl, A, q1, q2, q3, q4, q5⟩ := V
  have hin : ¬ (j < 0 ∨ cl.slots.size ≤ j.toNatClampNeg) := by rw [q2, hi]; rintro (z | z); exact hj z; omega
  subst hp
  exact Run.to (X.baloadBytes hx (j := j) (v := v) (by rw [eT]; exact A.1) (State.isArrayOf_alike r.hZ.alike A.2.1) A.2.2 hin (q4.at hin (by rw [hi]; exact hv)) (g := mkF m pc Ls (.int j :: .ref a :: rest)) rfl rfl hd) k
/-- putfield: into an object that no constant books (by its class, or one of S) -/
theorem w_putF (w : Wk p l e R s m args below meth c Z EL own h0 ws T h cells slots S) {R0 O n d C : String} {index kk : Nat} {ty : FieldType} (wl : (Jvm.Cond.fieldLink own index R0 n d).before a0 Z = true) (via : Via Z R0 O n d) {a : Addr} {v old : Value} (F : Fld Z h a O n d old) (E : Exa Z h a C) (L : (Jvm.Cond.lays C O n d).before a0 Z = true ∨ ((Jvm.Cond.laysFinal C O n d).before a0 Z = true ∧ own = O ∧ meth.name = "<init>")) (wi : (Jvm.Cond.instantiable C kk).before a0 Z = true)
    (hty : parseFieldDescriptor d = some ty) (hn : narrow ty v = v) (hf : fits ty v = true) (hd : decode c.code pc = .ok (.putfield index, 3)) (q : a ∈ ws ∨ h0.size ≤ a) (hS : (C ≠ "java/lang/String" ∧ C ≠ "[B") ∨ a ∈ S) (hp : pc + 3 = pc')
    (k : ∀ T' h', Wk p l e R s m args below meth c Z EL own h0 ws T' h' cells slots S → Wr h h' a (Jvm.RoadKit.slotOf Z O n d) v → Fld Z h' a O n d v → Exa Z h' a C → Run p e below Q T' (mkF m pc' Ls rest)) : Run p e below Q T (mkF m pc Ls (v :: .ref a :: rest)) := by
  obtain ⟨vm0, k0, locs, hx, X, eT, r⟩ := w
  obtain ⟨T', h', X', e', Wq, stp⟩ := putF X hx r.hZ (host := "") r.ow (Or.inl wl) via eT F E L wi hty hn hf (g := mkF m pc Ls (v :: .ref a :: rest)) rfl rfl hd
  subst hp
  have Sa : Safe Z EL vm0 h a := by
    rcases hS with hS | hS
    · exact Safe.exa r.hZ.alike E hS.1 hS.2
    · exact (r.2.2.2.2.2.2.2.2.2 a hS).2
  exact Run.to stp (k T' h' ⟨vm0, k0, _, hx, X', e', r.wr Wq Sa q⟩ Wq (F.same Wq) (E.wr Wq))
theorem w_objInit (w : Wk p l e R s m args below meth c Z EL own h0 ws T h cells slots S) {idx : Nat} (w1 : (Jvm.Cond.methodLink own idx Lib.objectInit).before a0 Z = true) (w2 : (Jvm.Cond.instanceMethod Lib.objectInit).before a0 Z = true) (w3 : (Jvm.Cond.code Lib.objectInit ⟨#[0xb1]⟩ 1 none).before a0 Z = true) {a : Addr} (hd : decode c.code pc = .ok (.invokespecial idx, 3)) (hsz : Ls.size = c.maxLocals) (hf : 1 ≤ R.frames) {W : Nat} (hW : (rest.map fun v => v.category).sum ≤ W) (hl : W + 12 ≤ R.locals) (hp : pc + 3 = pc')
    (k : ∀ T', Wk p l e R s m args below meth c Z EL own h0 ws T' h cells slots S → Run p e below Q T' (mkF m pc' Ls rest)) : Run p e below Q T (mkF m pc Ls (.ref a :: rest)) := by
  obtain ⟨vm0, k0, locs, hx, X, eT, r⟩ := w
  obtain ⟨T', X', e', stp⟩ := initO X hx r.hZ r.ow w1 w2 w3 eT (g := mkF m pc Ls (.ref a :: rest)) rfl hsz rfl hd hf (W := W) (by show 2 * 0 + _ ≤ _; omega) hl
  subst hp
  exact Run.to stp (k T' ⟨vm0, k0, locs, hx, X', e', r⟩)
theorem w_ldcI (w : Wk p l e R s m args below meth c Z EL own h0 ws T h cells slots S) {index : Nat} {v : Int32} (wl : (Jvm.Cond.constant own index v).before a0 Z = true) (hd : decode c.code pc = .ok (.ldc index, 2)) (hp : pc + 2 = pc') (k : Run p e below Q T (mkF m pc' Ls (.int v :: st))) : Run p e below Q T (mkF m pc Ls st) := by
  obtain ⟨vm0, k0, locs, hx, X, eT, r⟩ := w
  subst hp
  exact Run.to (fun _ q => X.ldcI hx r.ow (mvT r.hZ wl) (g := mkF m pc Ls st) rfl hd q) k
theorem w_ldcJ (w : Wk p l e R s m args below meth c Z EL own h0 ws T h cells slots S) {index : Nat} {v : Int64} (wl : (Jvm.Cond.constantLong own index v).before a0 Z = true) (hd : decode c.code pc = .ok (.ldc2_w index, 3)) (hp : pc + 3 = pc') (k : Run p e below Q T (mkF m pc' Ls (.long v :: st))) : Run p e below Q T (mkF m pc Ls st) := by
  obtain ⟨vm0, k0, locs, hx, X, eT, r⟩ := w
  subst hp
  exact Run.to (fun _ q => X.ldc2J hx r.ow (mvT r.hZ wl) (g := mkF m pc Ls st) rfl hd q) k
/-- ldc of a String constant that is one of EL: read -/
theorem w_ldcS (w : Wk p l e R s m args below meth c Z EL own h0 ws T h cells slots S) (hEL : EW Z a0 EL) {text : String} {index : Nat} (wl : (Jvm.Cond.stringLink own index text).before a0 Z = true) (wS : ∀ a ∈ Bundle.stringAtoms, a.before a0 Z = true) (hmem : (own, index) ∈ EL) {vs : List Value} {z : Int32} {n : Nat}
    (ht : (∀ c ∈ text.toList, c.toNat < 256) ∧ text.toList.map (fun c => Value.int (Jvm.Lit.byteI c.toNat.toUInt16)) = vs) (hz : ¬ z < 0) (hl : z.toNatClampNeg = vs.length) (hn : 4 * text.toList.length ≤ n) (hbig : n ≤ 536870912) (hd : decode c.code pc = .ok (.ldc index, 2)) (hp : pc + 2 = pc') (hc : cells + 2 ≤ R.cells) (hl' : slots + (n + 4) ≤ R.slots)
    (k : ∀ T' h' x t kb, Wk p l e R s m args below meth c Z EL own h0 ws T' h' (cells + 2) (slots + (n + 4)) S → Ext h h' → Exa Z h' x "java/lang/String" → Fld Z h' x "java/lang/String" "coder" "B" (.int 0) → Fld Z h' x "java/lang/String" "value" "[B" (.ref t) → Arv Z h' t kb .byte z vs (.int 0) → (∀ y ∈ S, y ≠ x ∧ y ≠ t) → Run p e below Q T' (mkF m pc' Ls (.ref x :: st))) : Run p e below Q T (mkF m pc Ls st) := by
  obtain ⟨vm0, k0, locs, hx, X, eT, r⟩ := w
  obtain ⟨x, T', h', k1, t, kb, X', e', E, hS, hk1, hZ', hown', A, C, V, K, -, -, hCH, -, hne, stp⟩ := ldcCH X hx r.hZ r.ow wl wS eT r.1 r.2.1 hEL hmem r.ch ht hz hl (g := mkF m pc Ls st) rfl hd hn hbig hc hl'
  subst hp
  obtain ⟨a1, a2, a3, a4, a5, a6, a7, a8, a9, a10⟩ := r
  have hs : ∀ y ∈ S, y < h'.size ∧ Safe Z EL T'.vm h' y := fun y q => ⟨Nat.lt_of_lt_of_le (a10 y q).1 E.1, hCH.safe (a10 y q).1 (a10 y q).2⟩
  exact Run.to stp (k T' h' x t kb ⟨T'.vm, k1, locs, hx, X', e', hS, hk1, hZ', hown', a5.trans hCH, a6, a7.ext E, a8, a9, hs⟩ E A C V K fun y q => hne y (hs y q).2)
/-- ldc of any String constant: what it pushes is a reference -/
theorem w_ldcO (w : Wk p l e R s m args below meth c Z EL own h0 ws T h cells slots S) (hEL : EW Z a0 EL) {text : String} {index : Nat} (wl : (Jvm.Cond.stringLink own index text).before a0 Z = true) (wS : ∀ a ∈ Bundle.stringAtoms, a.before a0 Z = true) {n : Nat} (hn : 4 * text.toList.length ≤ n) (hbig : n ≤ 536870912) (hd : decode c.code pc = .ok (.ldc index, 2)) (hp : pc + 2 = pc') (hc : cells + 2 ≤ R.cells) (hl' : slots + (n + 4) ≤ R.slots)
    (k : ∀ T' h' x, Wk p l e R s m args below meth c Z EL own h0 ws T' h' (cells + 2) (slots + (n + 4)) S → Ext h h' → Run p e below Q T' (mkF m pc' Ls (.ref x :: st))) : Run p e below Q T (mkF m pc Ls st) := by
  obtain ⟨vm0, k0, locs, hx, X, eT, r⟩ := w
  obtain ⟨x, T', h', k1, X', e', E, hS, hk1, hZ', hown', hCH, -, stp⟩ := ldcOH X hx r.hZ r.ow wl wS eT r.1 r.2.1 hEL r.ch (g := mkF m pc Ls st) rfl hd hn hbig hc hl'
  subst hp
  obtain ⟨a1, a2, a3, a4, a5, a6, a7, a8, a9, a10⟩ := r
  exact Run.to stp (k T' h' x ⟨T'.vm, k1, locs, hx, X', e', hS, hk1, hZ', hown', a5.trans hCH, a6, a7.ext E, a8, a9, fun y q => ⟨Nat.lt_of_lt_of_le (a10 y q).1 E.1, hCH.safe (a10 y q).1 (a10 y q).2⟩⟩ E)
/-! contracts -/
/-- what a body promises at its end -/
def QmN (Z : State) (EL : List (String × Nat)) (s : State) (h0 : Heap) (ws : List Addr) (rm : Room) (P : Option Value → Heap → List Addr → Prop) (o : Outcome) (U' : State) : Prop :=
  ∃ v L, o = .returned v ∧ (Fr Z.heap.size L ∧ Keep h0 U'.heap ws ∧ ∃ N, P v U'.heap N ∧ ∀ x ∈ N, x < U'.heap.size ∧ Safe Z EL U'.vm U'.heap x) ∧ CHr Z EL s.vm s.heap U'.vm U'.heap ∧ ReturnedEndW s o U' L rm.cells rm.slots
def Pm (Z : State) (EL : List (String × Nat)) (as' : Array Value) (h : Heap) (S ws : List Addr) (a : Array Value) (U : State) : Prop := a = as' ∧ Z.Warmed39 U.vm ∧ U.heap = h ∧ CHv Z EL U.vm h ∧ Ext Z.heap h ∧ (∀ x ∈ ws, Z.heap.size ≤ x) ∧ ∀ x ∈ S, x < h.size ∧ Safe Z EL U.vm h x
def MetN (l : Launch) (Z : State) (EL : List (String × Nat)) (y : MethodName) (bytes : ByteArray) (maxL : Nat) (ret : Option FieldType) (rm : Room) (as' : Array Value) (h : Heap) (S ws : List Addr) (P : Option Value → Heap → List Addr → Prop) : Prop :=
  ∀ wl : List Jvm.Cond, MetFree l y (head1 (Jvm.Cond.code y bytes maxL ret :: wl) rm) (Pm Z EL as' h S ws) (fun _ _ _ _ _ => True) (fun _ U o U' => QmN Z EL U h ws rm P o U')
/-- a body's contract: walk it from its first frame -/
theorem MetN.of {y : MethodName} {bytes : ByteArray} {maxL : Nat} {ret : Option FieldType} {rm : Room} {as' : Array Value} {P : Option Value → Heap → List Addr → Prop} (hpn : plainFor y = true)
    (body : ∀ p e s m below meth c T, meth.name = y.name → meth.sig.returnType = ret → meth.locks = false → c.code = bytes → c.maxLocals = maxL → s.heap = h0 → Wk p l e rm s m as' below meth c Z EL y.cls h0 ws T h0 0 0 S → Run p e below (QmN Z EL s h0 ws rm P) T (entryFrame m as' maxL)) : MetN l Z EL y bytes maxL ret rm as' h0 S ws P := by
  intro wl
  refine MetFree.of_bodySF (code := bytes) (maxLocals := maxL) (ret := ret) hpn hisR ?_
  intro p e s m args below meth c s₁ Bd hml0 hP hK
  obtain ⟨rfl, hZ, hh, hC, hn, hws, hS⟩ := hP
  have hnm := (name_of_methodNamed Bd.named Bd.method).1
  have hown : s.vm.findClass y.cls = some m.cls := findClass_of_methodNamed Bd.named
  have X0 : Stand p l e rm s m args below meth c s₁ [] 0 0 := Stand.of_body Bd
  have e0 : s₁.heap = h0 := by rw [← hh, Bd.state]; rfl
  exact body p e s m below meth c s₁ hnm Bd.returns Bd.notSynchronized Bd.bytes hml0 hh ⟨s.vm, 0, [], Bd.exec, X0, e0, (State.WarmedH.refl s).since 0, Nat.zero_le _, hZ, hown, CHr.refl hC, Fr.nil _, Keep.refl _ _, hn, hws, hS⟩
/-- the end of a walk -/
theorem w_retN (w : Wk p l e R s m args below meth c Z EL own h0 ws T h cells slots S) (hEL : EW Z a0 EL) (hs : s.heap = h0) (hlk : meth.locks = false) {v : Option Value} (hv : meth.sig.returnType = none → v = none) {P : Option Value → Heap → List Addr → Prop} {N : List Addr} (hN : ∀ x ∈ N, x ∈ S) (hP : P v h N) (hc : cells ≤ R.cells) (hl : slots ≤ R.slots)
    (stp : ∀ {vm0 : Vm} {locs : List Loc}, Stand p l e R (s.setVm vm0) m args below meth c T locs cells slots → ∀ fs, (∀ (f : JFrame) (acts : List Action), f.method = m → f.locked = none → f.entered = [] → (doReturn e (T.setTop f) acts v).1 = T.setFrames fs) → Steps p.tables e below (T.setTop g) (T.setFrames fs)) : Run p e below (QmN Z EL s h0 ws R P) T g := by
  obtain ⟨vm0, k0, locs, hx, X, eT, r⟩ := w
  obtain ⟨fs, hr, hrun, hended, hE⟩ := X.leaveW r.1 (by rw [eT]; exact r.2.1) hv
  refine ⟨_, _, stp X fs hr, hrun, hended, v, locs, rfl, ⟨r.2.2.2.2.2.1, ?_, ?_⟩, ?_, hE.1, hE.2.1, hE.2.2.1, hE.2.2.2.mono hc hl⟩
  · show Keep h0 T.heap ws
    rw [eT]; exact r.keep
  · refine ⟨N, by rw [show (T.setFrames fs).heap = h from eT]; exact hP, fun x z => ?_⟩
    show x < T.heap.size ∧ Safe Z EL T.vm T.heap x
    have q := r.2.2.2.2.2.2.2.2.2 x (hN x z)
    rw [eT]; exact ⟨q.1, (CHv.at X r.hZ hEL r.ch).safe q.1 q.2⟩
  · show CHr Z EL s.vm s.heap T.vm T.heap
    rw [eT, hs]
    exact r.2.2.2.2.1.trans (CHv.at X r.hZ hEL r.ch)
theorem w_ireturnN (w : Wk p l e R s m args below meth c Z EL own h0 ws T h cells slots S) (hEL : EW Z a0 EL) (hs : s.heap = h0) (hlk : meth.locks = false) {t : FieldType} {z : Int32} (hret : meth.sig.returnType = some t) (hn : narrow t (.int z) = .int z) (ht : t = .int ∨ t = .boolean ∨ t = .byte ∨ t = .char ∨ t = .short) {P : Option Value → Heap → List Addr → Prop} (hd : decode c.code pc = .ok (.ireturn, 1)) (hc : cells ≤ R.cells) (hl : slots ≤ R.slots) {N : List Addr} (hN : ∀ x ∈ N, x ∈ S) (hP : P (some (.int z)) h N) : Run p e below (QmN Z EL s h0 ws R P) T (mkF m pc Ls [.int z]) :=
  w_retN w hEL hs hlk (v := some (.int z)) (fun q => by rw [hret] at q; cases q) hN hP hc hl fun X fs hr => X.ireturnOut w.hx hret hn ht hd hr
theorem w_lreturnN (w : Wk p l e R s m args below meth c Z EL own h0 ws T h cells slots S) (hEL : EW Z a0 EL) (hs : s.heap = h0) (hlk : meth.locks = false) {z : Int64} (hret : meth.sig.returnType = some .long) {P : Option Value → Heap → List Addr → Prop} (hd : decode c.code pc = .ok (.lreturn, 1)) (hc : cells ≤ R.cells) (hl : slots ≤ R.slots) {N : List Addr} (hN : ∀ x ∈ N, x ∈ S) (hP : P (some (.long z)) h N) : Run p e below (QmN Z EL s h0 ws R P) T (mkF m pc Ls [.long z]) :=
  w_retN w hEL hs hlk (v := some (.long z)) (fun q => by rw [hret] at q; cases q) hN hP hc hl fun X fs hr => X.lreturnOut w.hx hret hd hr
theorem w_areturnN (w : Wk p l e R s m args below meth c Z EL own h0 ws T h cells slots S) (hEL : EW Z a0 EL) (hs : s.heap = h0) (hlk : meth.locks = false) {t : FieldType} {v : Value} (hret : meth.sig.returnType = some t) (ht : t.isReference = true) (hv : v.isRef = true) {P : Option Value → Heap → List Addr → Prop} (hd : decode c.code pc = .ok (.areturn, 1)) (hc : cells ≤ R.cells) (hl : slots ≤ R.slots) {N : List Addr} (hN : ∀ x ∈ N, x ∈ S) (hP : P (some v) h N) : Run p e below (QmN Z EL s h0 ws R P) T (mkF m pc Ls [v]) :=
  w_retN w hEL hs hlk (v := some v) (fun q => by rw [hret] at q; cases q) hN hP hc hl fun X fs hr => X.areturnOut w.hx hv hret ht hd hr
theorem w_returnN (w : Wk p l e R s m args below meth c Z EL own h0 ws T h cells slots S) (hEL : EW Z a0 EL) (hs : s.heap = h0) (hlk : meth.locks = false) (hret : meth.sig.returnType = none) {P : Option Value → Heap → List Addr → Prop} (hd : decode c.code pc = .ok (.return_, 1)) (hc : cells ≤ R.cells) (hl : slots ≤ R.slots) {N : List Addr} (hN : ∀ x ∈ N, x ∈ S) (hP : P none h N) : Run p e below (QmN Z EL s h0 ws R P) T (mkF m pc Ls []) :=
  w_retN w hEL hs hlk (v := none) (fun _ => rfl) hN hP hc hl fun X fs hr => X.returnOut w.hx hret hd hr
/-- a contract pays its caller -/
theorem MetN.back {y : MethodName} {bytes : ByteArray} {maxL : Nat} {ret : Option FieldType} {rm : Room} {as' : Array Value} {S' ws' : List Addr} {P : Option Value → Heap → List Addr → Prop} {len W : Nat} (hM : MetN l Z EL y bytes maxL ret rm as' h S' ws' P) (hZ : Z.Warmed39 vm0) (wc : (Jvm.Cond.code y bytes maxL ret).before a0 Z = true) (wz : (Jvm.Cond.initialized y.cls).before a0 Z = true)
    (hf : rm.frames + 1 ≤ R.frames) (hl : W + (maxL + 11) + rm.locals ≤ R.locals) (hEL : EW Z a0 EL) (H : CHv Z EL vm0 h) (hn : Ext Z.heap h) (hws : ∀ x ∈ ws', Z.heap.size ≤ x) (hS : ∀ x ∈ S', x < h.size ∧ Safe Z EL vm0 h x) :
    BackS l R p e below (s.setVm vm0) args y len W (fun A a => a = as' ∧ A.U.heap = h ∧ A.cells + rm.cells ≤ R.cells ∧ A.slots + rm.slots ≤ R.slots)
      (fun A _ v B => ∃ L, (Fr Z.heap.size L ∧ Keep h B.U.heap ws' ∧ ∃ N, P v B.U.heap N ∧ ∀ x ∈ N, x < B.U.heap.size ∧ Safe Z EL B.U.vm B.U.heap x) ∧ B.locs = A.locs ++ L ∧ B.cells = A.cells + rm.cells ∧ B.slots = A.slots + rm.slots ∧ CHr Z EL vm0 h B.U.vm B.U.heap) :=
  BackS.of_freeW (bytes := bytes) (maxL := maxL) (ret := ret) (E := fun _ first o t L k n => k = rm.cells ∧ n = rm.slots ∧ (∃ v, o = .returned v ∧ (Fr Z.heap.size L ∧ Keep h t.heap ws' ∧ ∃ N, P v t.heap N ∧ ∀ x ∈ N, x < t.heap.size ∧ Safe Z EL t.vm t.heap x)) ∧ CHr Z EL first.vm first.heap t.vm t.heap) (hM []) hf hl
    (fun m meth c A a Y hp => have hU : Z.Warmed39 A.U.vm := wtrans (s := s.setVm vm0) hZ Y.warmed
      ⟨by show (Jvm.Cond.and _ .tt).before a A.U = true; rw [Cond.before_and, mv hU wc]; rfl, mv hU wc, mv hU wz, hp.2.2.1, hp.2.2.2⟩)
    (fun m meth c A a g mk Y hp => ⟨hp.1, wtrans (s := s.setVm vm0) hZ Y.warmed, hp.2.1, (CHv.at Y hZ hEL H).1, hn, hws, fun x q => ⟨(hS x q).1, (CHv.at Y hZ hEL H).safe (hS x q).1 (hS x q).2⟩⟩) (fun _ _ _ _ _ _ _ _ _ => trivial)
    (fun _ _ _ _ ⟨v, L, h1, h2, h3, h4⟩ => ⟨L, _, _, h4, rfl, rfl, ⟨v, h1, h2⟩, h3⟩)
    (fun m meth c A a g mk v t L k n Y hp _ _ ⟨e1, e2, ⟨v', e3, e4⟩, e5⟩ => by
      cases e3; subst e1 e2
      refine ⟨L, e4, rfl, rfl, rfl, (CHv.at Y hZ hEL H).trans ?_⟩
      rw [← hp.2.1]; exact e5)
theorem Rs.adds (r : Rs s m Z EL own h0 ws vm0 k0 locs h S) {N : List Addr} (q : ∀ x ∈ N, x < h.size ∧ Safe Z EL vm0 h x) : Rs s m Z EL own h0 ws vm0 k0 locs h (N ++ S) := by
  obtain ⟨a1, a2, a3, a4, a5, a6, a7, a8, a9, a10⟩ := r
  exact ⟨a1, a2, a3, a4, a5, a6, a7, a8, a9, fun x z => (List.mem_append.mp z).elim (q x) (a10 x)⟩
/-- what stands behind a call -/
theorem Rs.call (r : Rs s m Z EL own h0 ws vm0 k0 locs h S) {vm1 : Vm} {L : List Loc} {ws' : List Addr} (h2 : (s.setVm vm0).Since vm1 h'.size) (hC : CHr Z EL vm0 h vm1 h') (F : Fr Z.heap.size L) (K : Keep h h' ws') (q : ∀ x ∈ ws', x ∈ ws ∨ h0.size ≤ x) : Rs s m Z EL own h0 ws vm1 h'.size (locs ++ L) h' S := by
  obtain ⟨a1, a2, a3, a4, a5, a6, a7, a8, a9, a10⟩ := r
  exact ⟨a1.trans h2 (Nat.le_trans a2 K.1), Nat.le_refl _, State.Warmed39.trans (t := s.setVm vm0) a3 h2.1, (h2.1.alike.findClass _ _).trans a4, a5.trans hC, a6.app F, a7.trans K q, a8, a9, fun x z => ⟨Nat.lt_of_lt_of_le (a10 x z).1 K.1, hC.safe (a10 x z).1 (a10 x z).2⟩⟩
theorem w_staticN (w : Wk p l e R s m args below meth c Z EL own h0 ws T h cells slots S) (hEL : EW Z a0 EL) {index : Nat} {y : MethodName} {bytes : ByteArray} {maxL : Nat} {ret : Option FieldType} {rm : Room} {as' : Array Value} {S' ws' : List Addr} {P : Option Value → Heap → List Addr → Prop} {W : Nat} {argsL : List Value}
    (w1 : (Jvm.Cond.methodLink own index y).before a0 Z = true) (w2 : (Jvm.Cond.static y).before a0 Z = true) (w3 : (Jvm.Cond.initialized y.cls).before a0 Z = true) (w4 : (Jvm.Cond.code y bytes maxL ret).before a0 Z = true) (hy : y.cls ≠ "java/lang/invoke/MethodHandle" ∧ y.cls ≠ "java/lang/invoke/VarHandle")
    (hM : MetN l Z EL y bytes maxL ret rm as' h S' ws' P) (hS : ∀ x ∈ S', x ∈ S) (hws : ∀ x ∈ ws', x ∈ ws ∨ h0.size ≤ x) (hlen : ∀ sig, parseMethodDescriptor y.desc = some sig → argsL.length = sig.parameters.length) (ha : argsL.toArray = as') (hst : st = argsL.reverse ++ rest) (hd : decode c.code pc = .ok (.invokestatic index, 3)) (hsz : Ls.size = c.maxLocals)
    (hW : (rest.map fun v => v.category).sum ≤ W) (hf : rm.frames + 1 ≤ R.frames) (hl : W + (maxL + 11) + rm.locals ≤ R.locals) (hc : cells + rm.cells ≤ R.cells) (hsl : slots + rm.slots ≤ R.slots) (hp : pc + 3 = pc')
    (k : ∀ v N T' h', Wk p l e R s m args below meth c Z EL own h0 ws T' h' (cells + rm.cells) (slots + rm.slots) (N ++ S) → Keep h h' ws' → P v h' N → Run p e below Q T' (mkF m pc' Ls (v.toList ++ rest))) : Run p e below Q T (mkF m pc Ls st) := by
  obtain ⟨vm0, k0, locs, hx, X, eT, r⟩ := w
  have hn := r.old
  have hb := MetN.back (R := R) (p := p) (e := e) (below := below) (s := s) (args := args) (len := 3) (W := W) hM r.hZ w4 w3 hf hl hEL r.ch hn (fun x q => (hws x q).elim (r.2.2.2.2.2.2.2.2.1 x) (Nat.le_trans r.2.2.2.2.2.2.2.1.1)) (fun x q => r.2.2.2.2.2.2.2.2.2 x (hS x q))
  obtain ⟨v, vm1, ⟨T', L', c', n'⟩, -, X', hSi, hg, ⟨L, ⟨q1, q2, N, q3, qN⟩, y1, y2, y3, hC⟩, stp⟩ := callSS X hx r.ow (mvT r.hZ w1) (mvT r.hZ w2) (mvT r.hZ w3) (mvT r.hZ w4) hy hb (g := mkF m pc Ls st) rfl hsz (argsL := argsL) (rest := rest) hlen hst (by show 2 * 0 + _ ≤ _; omega) hd (fun _ _ => ⟨ha, eT, hc, hsl⟩)
  dsimp only [Pt.U, Pt.locs, Pt.cells, Pt.slots] at X' hSi hg q2 q3 qN y1 y2 y3 hC stp
  subst y1 y2 y3 hp
  exact Run.stp stp (k v N T' T'.heap ⟨T'.vm, _, _, hx, X', rfl, (r.call hSi hC q1 q2 hws).adds qN⟩ q2 q3)
theorem w_specialN (w : Wk p l e R s m args below meth c Z EL own h0 ws T h cells slots S) (hEL : EW Z a0 EL) {index : Nat} {y : MethodName} {bytes : ByteArray} {maxL : Nat} {rm : Room} {as' : Array Value} {S' ws' : List Addr} {P : Option Value → Heap → List Addr → Prop} {W : Nat} {a : Addr} {argsL : List Value}
    (hy1 : y.name = "<init>") (w1 : (Jvm.Cond.methodLink own index y).before a0 Z = true) (w2 : (Jvm.Cond.instanceMethod y).before a0 Z = true) (w3 : (Jvm.Cond.initialized y.cls).before a0 Z = true) (w4 : (Jvm.Cond.code y bytes maxL none).before a0 Z = true) (hy : y.cls ≠ "java/lang/invoke/MethodHandle" ∧ y.cls ≠ "java/lang/invoke/VarHandle")
    (hM : MetN l Z EL y bytes maxL none rm as' h S' ws' P) (hS : ∀ x ∈ S', x ∈ S) (hws : ∀ x ∈ ws', x ∈ ws ∨ h0.size ≤ x) (hlen : ∀ sig, parseMethodDescriptor y.desc = some sig → argsL.length = sig.parameters.length) (ha : (Value.ref a :: argsL).toArray = as') (hst : st = argsL.reverse ++ .ref a :: rest) (hd : decode c.code pc = .ok (.invokespecial index, 3)) (hsz : Ls.size = c.maxLocals)
    (hW : (rest.map fun v => v.category).sum ≤ W) (hf : rm.frames + 1 ≤ R.frames) (hl : W + (maxL + 11) + rm.locals ≤ R.locals) (hc : cells + rm.cells ≤ R.cells) (hsl : slots + rm.slots ≤ R.slots) (hp : pc + 3 = pc')
    (k : ∀ v N T' h', Wk p l e R s m args below meth c Z EL own h0 ws T' h' (cells + rm.cells) (slots + rm.slots) (N ++ S) → Keep h h' ws' → P v h' N → Run p e below Q T' (mkF m pc' Ls (v.toList ++ rest))) : Run p e below Q T (mkF m pc Ls st) := by
  obtain ⟨vm0, k0, locs, hx, X, eT, r⟩ := w
  have hn := r.old
  have hb := MetN.back (R := R) (p := p) (e := e) (below := below) (s := s) (args := args) (len := 3) (W := W) hM r.hZ w4 w3 hf hl hEL r.ch hn (fun x q => (hws x q).elim (r.2.2.2.2.2.2.2.2.1 x) (Nat.le_trans r.2.2.2.2.2.2.2.1.1)) (fun x q => r.2.2.2.2.2.2.2.2.2 x (hS x q))
  obtain ⟨v, vm1, ⟨T', L', c', n'⟩, -, X', hSi, hg, ⟨L, ⟨q1, q2, N, q3, qN⟩, y1, y2, y3, hC⟩, stp⟩ := X.specialBackS hx hy1 r.ow (mvT r.hZ w1) (mvT r.hZ w2) (mvT r.hZ w4) hy hb (g := mkF m pc Ls st) rfl hsz (Steps.refl _) (a := a) (argsL := argsL) (rest := rest) hlen hst (by show 2 * 0 + _ ≤ _; omega) hd (fun _ _ => ⟨ha, eT, hc, hsl⟩)
  dsimp only [Pt.U, Pt.locs, Pt.cells, Pt.slots] at X' hSi hg q2 q3 qN y1 y2 y3 hC stp
  subst y1 y2 y3 hp
  exact Run.stp stp (k v N T' T'.heap ⟨T'.vm, _, _, hx, X', rfl, (r.call hSi hC q1 q2 hws).adds qN⟩ q2 q3)
theorem w_virtualN (w : Wk p l e R s m args below meth c Z EL own h0 ws T h cells slots S) (hEL : EW Z a0 EL) {index : Nat} {y y' : MethodName} {C : String} {bytes : ByteArray} {maxL : Nat} {ret : Option FieldType} {rm : Room} {as' : Array Value} {S' ws' : List Addr} {P : Option Value → Heap → List Addr → Prop} {W : Nat} {a : Addr} {argsL : List Value}
    (w1 : (Jvm.Cond.methodLink own index y).before a0 Z = true) (w2 : (Jvm.Cond.declares y).before a0 Z = true) (w5 : (Jvm.Cond.selects y.cls y y).before a0 Z = true) (w6 : (Jvm.Cond.selects C y y').before a0 Z = true) (w7 : (Jvm.Cond.instanceMethod y').before a0 Z = true) (w3 : (Jvm.Cond.initialized y'.cls).before a0 Z = true) (w4 : (Jvm.Cond.code y' bytes maxL ret).before a0 Z = true) (hy : y.cls ≠ "java/lang/invoke/MethodHandle" ∧ y.cls ≠ "java/lang/invoke/VarHandle")
    (E : Exa Z h a C) (hM : MetN l Z EL y' bytes maxL ret rm as' h S' ws' P) (hS : ∀ x ∈ S', x ∈ S) (hws : ∀ x ∈ ws', x ∈ ws ∨ h0.size ≤ x) (hlen : ∀ sig, parseMethodDescriptor y.desc = some sig → argsL.length = sig.parameters.length) (ha : (Value.ref a :: argsL).toArray = as') (hst : st = argsL.reverse ++ .ref a :: rest) (hd : decode c.code pc = .ok (.invokevirtual index, 3)) (hsz : Ls.size = c.maxLocals)
    (hW : (rest.map fun v => v.category).sum ≤ W) (hf : rm.frames + 1 ≤ R.frames) (hl : W + (maxL + 11) + rm.locals ≤ R.locals) (hc : cells + rm.cells ≤ R.cells) (hsl : slots + rm.slots ≤ R.slots) (hp : pc + 3 = pc')
    (k : ∀ v N T' h', Wk p l e R s m args below meth c Z EL own h0 ws T' h' (cells + rm.cells) (slots + rm.slots) (N ++ S) → Keep h h' ws' → P v h' N → Run p e below Q T' (mkF m pc' Ls (v.toList ++ rest))) : Run p e below Q T (mkF m pc Ls st) := by
  obtain ⟨vm0, k0, locs, hx, X, eT, r⟩ := w
  have hn := r.old
  have hb := MetN.back (R := R) (p := p) (e := e) (below := below) (s := s) (args := args) (len := 3) (W := W) hM r.hZ w4 w3 hf hl hEL r.ch hn (fun x q => (hws x q).elim (r.2.2.2.2.2.2.2.2.1 x) (Nat.le_trans r.2.2.2.2.2.2.2.1.1)) (fun x q => r.2.2.2.2.2.2.2.2.2 x (hS x q))
  obtain ⟨cq, kq, qa, qb, qc⟩ := isOf r.hZ eT E
  obtain ⟨v, vm1, ⟨T', L', c', n'⟩, -, X', hSi, hg, ⟨L, ⟨q1, q2, N, q3, qN⟩, y1, y2, y3, hC⟩, stp⟩ := X.virtualBackS hx r.ow (mvT r.hZ w1) (mvT r.hZ w2) (notFace_of_selects (args := #[]) (mvT r.hZ w5)) (mvT r.hZ w6) (mvT r.hZ w7) hy hb qa qc (g := mkF m pc Ls st) rfl hsz (Steps.refl _) (argsL := argsL) (rest := rest) hlen hst (by show 2 * 0 + _ ≤ _; omega) hd (fun _ _ => ⟨ha, eT, hc, hsl⟩)
  dsimp only [Pt.U, Pt.locs, Pt.cells, Pt.slots] at X' hSi hg q2 q3 qN y1 y2 y3 hC stp
  subst y1 y2 y3 hp
  exact Run.stp stp (k v N T' T'.heap ⟨T'.vm, _, _, hx, X', rfl, (r.call hSi hC q1 q2 hws).adds qN⟩ q2 q3)
/-- a contract that says nothing of what it made -/
def Lf (P : Option Value → Heap → Prop) (v : Option Value) (h : Heap) (N : List Addr) : Prop := N = [] ∧ P v h
abbrev Qm (Z : State) (EL : List (String × Nat)) (s : State) (h0 : Heap) (ws : List Addr) (rm : Room) (P : Option Value → Heap → Prop) (o : Outcome) (U' : State) : Prop := QmN Z EL s h0 ws rm (Lf P) o U'
abbrev Met (l : Launch) (Z : State) (EL : List (String × Nat)) (y : MethodName) (bytes : ByteArray) (maxL : Nat) (ret : Option FieldType) (rm : Room) (as' : Array Value) (h : Heap) (S ws : List Addr) (P : Option Value → Heap → Prop) : Prop := MetN l Z EL y bytes maxL ret rm as' h S ws (Lf P)
theorem Met.of {y : MethodName} {bytes : ByteArray} {maxL : Nat} {ret : Option FieldType} {rm : Room} {as' : Array Value} {P : Option Value → Heap → Prop} (hpn : plainFor y = true)
    (body : ∀ p e s m below meth c T, meth.name = y.name → meth.sig.returnType = ret → meth.locks = false → c.code = bytes → c.maxLocals = maxL → s.heap = h0 → Wk p l e rm s m as' below meth c Z EL y.cls h0 ws T h0 0 0 S → Run p e below (Qm Z EL s h0 ws rm P) T (entryFrame m as' maxL)) : Met l Z EL y bytes maxL ret rm as' h0 S ws P := MetN.of hpn body
theorem nilS : ∀ x ∈ ([] : List Addr), x ∈ S := fun _ q => nomatch q
theorem w_ireturn (w : Wk p l e R s m args below meth c Z EL own h0 ws T h cells slots S) (hEL : EW Z a0 EL) (hs : s.heap = h0) (hlk : meth.locks = false) {t : FieldType} {z : Int32} (hret : meth.sig.returnType = some t) (hn : narrow t (.int z) = .int z) (ht : t = .int ∨ t = .boolean ∨ t = .byte ∨ t = .char ∨ t = .short) {P : Option Value → Heap → Prop} (hd : decode c.code pc = .ok (.ireturn, 1)) (hc : cells ≤ R.cells) (hl : slots ≤ R.slots) (hP : P (some (.int z)) h) : Run p e below (Qm Z EL s h0 ws R P) T (mkF m pc Ls [.int z]) :=
  w_ireturnN w hEL hs hlk hret hn ht hd hc hl nilS ⟨rfl, hP⟩
theorem w_lreturn (w : Wk p l e R s m args below meth c Z EL own h0 ws T h cells slots S) (hEL : EW Z a0 EL) (hs : s.heap = h0) (hlk : meth.locks = false) {z : Int64} (hret : meth.sig.returnType = some .long) {P : Option Value → Heap → Prop} (hd : decode c.code pc = .ok (.lreturn, 1)) (hc : cells ≤ R.cells) (hl : slots ≤ R.slots) (hP : P (some (.long z)) h) : Run p e below (Qm Z EL s h0 ws R P) T (mkF m pc Ls [.long z]) :=
  w_lreturnN w hEL hs hlk hret hd hc hl nilS ⟨rfl, hP⟩
theorem w_areturn (w : Wk p l e R s m args below meth c Z EL own h0 ws T h cells slots S) (hEL : EW Z a0 EL) (hs : s.heap = h0) (hlk : meth.locks = false) {t : FieldType} {v : Value} (hret : meth.sig.returnType = some t) (ht : t.isReference = true) (hv : v.isRef = true) {P : Option Value → Heap → Prop} (hd : decode c.code pc = .ok (.areturn, 1)) (hc : cells ≤ R.cells) (hl : slots ≤ R.slots) (hP : P (some v) h) : Run p e below (Qm Z EL s h0 ws R P) T (mkF m pc Ls [v]) :=
  w_areturnN w hEL hs hlk hret ht hv hd hc hl nilS ⟨rfl, hP⟩
theorem w_return (w : Wk p l e R s m args below meth c Z EL own h0 ws T h cells slots S) (hEL : EW Z a0 EL) (hs : s.heap = h0) (hlk : meth.locks = false) (hret : meth.sig.returnType = none) {P : Option Value → Heap → Prop} (hd : decode c.code pc = .ok (.return_, 1)) (hc : cells ≤ R.cells) (hl : slots ≤ R.slots) (hP : P none h) : Run p e below (Qm Z EL s h0 ws R P) T (mkF m pc Ls []) :=
  w_returnN w hEL hs hlk hret hd hc hl nilS ⟨rfl, hP⟩
theorem w_static (w : Wk p l e R s m args below meth c Z EL own h0 ws T h cells slots S) (hEL : EW Z a0 EL) {index : Nat} {y : MethodName} {bytes : ByteArray} {maxL : Nat} {ret : Option FieldType} {rm : Room} {as' : Array Value} {S' ws' : List Addr} {P : Option Value → Heap → Prop} {W : Nat} {argsL : List Value}
    (w1 : (Jvm.Cond.methodLink own index y).before a0 Z = true) (w2 : (Jvm.Cond.static y).before a0 Z = true) (w3 : (Jvm.Cond.initialized y.cls).before a0 Z = true) (w4 : (Jvm.Cond.code y bytes maxL ret).before a0 Z = true) (hy : y.cls ≠ "java/lang/invoke/MethodHandle" ∧ y.cls ≠ "java/lang/invoke/VarHandle")
    (hM : Met l Z EL y bytes maxL ret rm as' h S' ws' P) (hS : ∀ x ∈ S', x ∈ S) (hws : ∀ x ∈ ws', x ∈ ws ∨ h0.size ≤ x) (hlen : ∀ sig, parseMethodDescriptor y.desc = some sig → argsL.length = sig.parameters.length) (ha : argsL.toArray = as') (hst : st = argsL.reverse ++ rest) (hd : decode c.code pc = .ok (.invokestatic index, 3)) (hsz : Ls.size = c.maxLocals)
    (hW : (rest.map fun v => v.category).sum ≤ W) (hf : rm.frames + 1 ≤ R.frames) (hl : W + (maxL + 11) + rm.locals ≤ R.locals) (hc : cells + rm.cells ≤ R.cells) (hsl : slots + rm.slots ≤ R.slots) (hp : pc + 3 = pc')
    (k : ∀ v T' h', Wk p l e R s m args below meth c Z EL own h0 ws T' h' (cells + rm.cells) (slots + rm.slots) S → Keep h h' ws' → P v h' → Run p e below Q T' (mkF m pc' Ls (v.toList ++ rest))) : Run p e below Q T (mkF m pc Ls st) :=
  w_staticN w hEL w1 w2 w3 w4 hy hM hS hws hlen ha hst hd hsz hW hf hl hc hsl hp fun v N T' h' w' K' P' => by obtain ⟨rfl, P'⟩ := P'; exact k v T' h' w' K' P'
theorem w_special (w : Wk p l e R s m args below meth c Z EL own h0 ws T h cells slots S) (hEL : EW Z a0 EL) {index : Nat} {y : MethodName} {bytes : ByteArray} {maxL : Nat} {rm : Room} {as' : Array Value} {S' ws' : List Addr} {P : Option Value → Heap → Prop} {W : Nat} {a : Addr} {argsL : List Value}
    (hy1 : y.name = "<init>") (w1 : (Jvm.Cond.methodLink own index y).before a0 Z = true) (w2 : (Jvm.Cond.instanceMethod y).before a0 Z = true) (w3 : (Jvm.Cond.initialized y.cls).before a0 Z = true) (w4 : (Jvm.Cond.code y bytes maxL none).before a0 Z = true) (hy : y.cls ≠ "java/lang/invoke/MethodHandle" ∧ y.cls ≠ "java/lang/invoke/VarHandle")
    (hM : Met l Z EL y bytes maxL none rm as' h S' ws' P) (hS : ∀ x ∈ S', x ∈ S) (hws : ∀ x ∈ ws', x ∈ ws ∨ h0.size ≤ x) (hlen : ∀ sig, parseMethodDescriptor y.desc = some sig → argsL.length = sig.parameters.length) (ha : (Value.ref a :: argsL).toArray = as') (hst : st = argsL.reverse ++ .ref a :: rest) (hd : decode c.code pc = .ok (.invokespecial index, 3)) (hsz : Ls.size = c.maxLocals)
    (hW : (rest.map fun v => v.category).sum ≤ W) (hf : rm.frames + 1 ≤ R.frames) (hl : W + (maxL + 11) + rm.locals ≤ R.locals) (hc : cells + rm.cells ≤ R.cells) (hsl : slots + rm.slots ≤ R.slots) (hp : pc + 3 = pc')
    (k : ∀ v T' h', Wk p l e R s m args below meth c Z EL own h0 ws T' h' (cells + rm.cells) (slots + rm.slots) S → Keep h h' ws' → P v h' → Run p e below Q T' (mkF m pc' Ls (v.toList ++ rest))) : Run p e below Q T (mkF m pc Ls st) :=
  w_specialN w hEL hy1 w1 w2 w3 w4 hy hM hS hws hlen ha hst hd hsz hW hf hl hc hsl hp fun v N T' h' w' K' P' => by obtain ⟨rfl, P'⟩ := P'; exact k v T' h' w' K' P'
theorem w_virtual (w : Wk p l e R s m args below meth c Z EL own h0 ws T h cells slots S) (hEL : EW Z a0 EL) {index : Nat} {y y' : MethodName} {C : String} {bytes : ByteArray} {maxL : Nat} {ret : Option FieldType} {rm : Room} {as' : Array Value} {S' ws' : List Addr} {P : Option Value → Heap → Prop} {W : Nat} {a : Addr} {argsL : List Value}
    (w1 : (Jvm.Cond.methodLink own index y).before a0 Z = true) (w2 : (Jvm.Cond.declares y).before a0 Z = true) (w5 : (Jvm.Cond.selects y.cls y y).before a0 Z = true) (w6 : (Jvm.Cond.selects C y y').before a0 Z = true) (w7 : (Jvm.Cond.instanceMethod y').before a0 Z = true) (w3 : (Jvm.Cond.initialized y'.cls).before a0 Z = true) (w4 : (Jvm.Cond.code y' bytes maxL ret).before a0 Z = true) (hy : y.cls ≠ "java/lang/invoke/MethodHandle" ∧ y.cls ≠ "java/lang/invoke/VarHandle")
    (E : Exa Z h a C) (hM : Met l Z EL y' bytes maxL ret rm as' h S' ws' P) (hS : ∀ x ∈ S', x ∈ S) (hws : ∀ x ∈ ws', x ∈ ws ∨ h0.size ≤ x) (hlen : ∀ sig, parseMethodDescriptor y.desc = some sig → argsL.length = sig.parameters.length) (ha : (Value.ref a :: argsL).toArray = as') (hst : st = argsL.reverse ++ .ref a :: rest) (hd : decode c.code pc = .ok (.invokevirtual index, 3)) (hsz : Ls.size = c.maxLocals)
    (hW : (rest.map fun v => v.category).sum ≤ W) (hf : rm.frames + 1 ≤ R.frames) (hl : W + (maxL + 11) + rm.locals ≤ R.locals) (hc : cells + rm.cells ≤ R.cells) (hsl : slots + rm.slots ≤ R.slots) (hp : pc + 3 = pc')
    (k : ∀ v T' h', Wk p l e R s m args below meth c Z EL own h0 ws T' h' (cells + rm.cells) (slots + rm.slots) S → Keep h h' ws' → P v h' → Run p e below Q T' (mkF m pc' Ls (v.toList ++ rest))) : Run p e below Q T (mkF m pc Ls st) :=
  w_virtualN w hEL w1 w2 w5 w6 w7 w3 w4 hy E hM hS hws hlen ha hst hd hsz hW hf hl hc hsl hp fun v N T' h' w' K' P' => by obtain ⟨rfl, P'⟩ := P'; exact k v T' h' w' K' P'
/-- a law of the pasted text (Back), of a virtual call that leaves the heap as it was -/
theorem w_virtB (w : Wk p l e R s m args below meth c Z EL own h0 ws T h cells slots S) {index : Nat} {y y' : MethodName} {C : String} {as' : Array Value} {Pv : Option Value → Prop} {W : Nat} {a : Addr} {argsL : List Value}
    (w1 : (Jvm.Cond.methodLink own index y).before a0 Z = true) (w2 : (Jvm.Cond.declares y).before a0 Z = true) (w5 : (Jvm.Cond.selects y.cls y y).before a0 Z = true) (w6 : (Jvm.Cond.selects C y y').before a0 Z = true) (w7 : (Jvm.Cond.instanceMethod y').before a0 Z = true) (hy : y.cls ≠ "java/lang/invoke/MethodHandle" ∧ y.cls ≠ "java/lang/invoke/VarHandle")
    (E : Exa Z h a C) (hK : ∀ vm0, Z.Warmed39 (s.setVm vm0).vm → Back l R p e below (s.setVm vm0) args y' 3 W (fun P b => b = as' ∧ P.U.heap = h ∧ P.cells + 0 ≤ R.cells ∧ P.slots + 0 ≤ R.slots) (fun P _ v B => ∃ L, (Pv v ∧ L = [] ∧ B.U.heap = h) ∧ B.locs = P.locs ++ L ∧ B.cells = P.cells + 0 ∧ B.slots = P.slots + 0))
    (hlen : ∀ sig, parseMethodDescriptor y.desc = some sig → argsL.length = sig.parameters.length) (ha : (Value.ref a :: argsL).toArray = as') (hst : st = argsL.reverse ++ .ref a :: rest) (hd : decode c.code pc = .ok (.invokevirtual index, 3)) (hsz : Ls.size = c.maxLocals)
    (hW : (rest.map fun v => v.category).sum ≤ W) (hc : cells ≤ R.cells) (hsl : slots ≤ R.slots) (hp : pc + 3 = pc')
    (k : ∀ v T', Wk p l e R s m args below meth c Z EL own h0 ws T' h cells slots S → Pv v → Run p e below Q T' (mkF m pc' Ls (v.toList ++ rest))) : Run p e below Q T (mkF m pc Ls st) := by
  obtain ⟨vm0, k0, locs, hx, X, eT, r⟩ := w
  obtain ⟨cq, kq, qa, qb, qc⟩ := isOf r.hZ eT E
  obtain ⟨v, vm1, ⟨T', L', c', n'⟩, -, X', ⟨L, ⟨q1, q2, q3⟩, y1, y2, y3⟩, stp⟩ := X.virtualBack hx r.ow (mvT r.hZ w1) (mvT r.hZ w2) (notFace_of_selects (args := #[]) (mvT r.hZ w5)) (mvT r.hZ w6) (mvT r.hZ w7) hy (hK vm0 r.hZ) qa qc (g := mkF m pc Ls st) rfl hsz (Steps.refl _) (argsL := argsL) (rest := rest) hlen hst (by show 2 * 0 + _ ≤ _; omega) hd (fun _ _ => ⟨ha, eT, hc, hsl⟩)
  dsimp only [Pt.U, Pt.locs, Pt.cells, Pt.slots] at X' q3 y1 y2 y3 stp
  subst q2 y1 y2 y3 hp
  rw [List.append_nil] at X'
  exact Run.stp stp (k v T' ⟨vm0, k0, locs, hx, X', q3, r⟩ q1)
end Kit
end Ow
end Jvm.Pilot.@@N@@


namespace Jvm.Pilot.@@N@@
open Jvm Jvm.ClassFile Sem Op Lib Jvm.Free Jvm.Stand Jvm.LawKit Jvm.RoadKit Bundle Jvm.Pilot.@@N@@.Jvm.D
namespace Ow
open StrChars StrChars.Road
abbrev wordsS : List Jvm.Cond := .stringLink ST 7 "" :: Bundle.stringAtoms
theorem e4_8 : decode New4.yB 8 = .ok (.aload_n 0, 1) := by decide +kernel
theorem e4_9 : decode New4.yB 9 = .ok (.ldc 7, 2) := by decide +kernel
theorem e4_11 : decode New4.yB 11 = .ok (.getfield 9, 3) := by decide +kernel
theorem e4_14 : decode New4.yB 14 = .ok (.putfield 9, 3) := by decide +kernel
theorem e4_17 : decode New4.yB 17 = .ok (.aload_n 0, 1) := by decide +kernel
theorem e4_18 : decode New4.yB 18 = .ok (.ldc 7, 2) := by decide +kernel
theorem e4_20 : decode New4.yB 20 = .ok (.getfield 15, 3) := by decide +kernel
theorem e4_23 : decode New4.yB 23 = .ok (.putfield 15, 3) := by decide +kernel
theorem e4_26 : decode New4.yB 26 = .ok (.return_, 1) := by decide +kernel
theorem pnS : plainName "java/lang/String" = true := by first | (simp [plainName, overriddenIn]; done) | decide +kernel
theorem ef4 (m : MethodId) (x b : Addr) : entryFrame m #[.ref x, .ref b, .int 0, .int 0, .null] 6 = mkF m 0 #[.val (.ref x), .val (.ref b), .val (.int 0), .val (.int 0), .val .null, .unset] [] := by first | (simp [entryFrame, mkF, argsToLocals, Value.category]; done) | rfl
theorem ef1 (m : MethodId) (x b : Addr) : entryFrame m #[.ref x, .ref b] 2 = mkF m 0 #[.val (.ref x), .val (.ref b)] [] := by first | (simp [entryFrame, mkF, argsToLocals, Value.category]; done) | rfl
section StrK
variable {p : Program} {l : Launch} {e : Env} {R : Room} {s : State} {m : MethodId} {args : Array Value} {below : List Frame} {meth : Method} {c : Code} {Z : State} {a0 : Array Value} {EL : List (String × Nat)} {own : String} {h0 : Heap} {ws : List Addr} {T T' : State} {h h' hB : Heap} {cells slots : Nat} {S : List Addr} {Q : Outcome → State → Prop} {pc pc' pc1 pc2 : Nat} {Ls l' : Array Slot} {rest st : List Value} {x y : Addr} {cs ds : List Int32}
/-- the String at x spells cs -/
def Str (Z : State) (h : Heap) (x : Addr) (cs : List Int32) : Prop :=
  Exa Z h x ST ∧ ∃ (t : Addr) (kb : ClassId) (cd N2 : Int32) (vs : List Value), Fld Z h x ST "value" "[B" (.ref t) ∧ Fld Z h x ST "coder" "B" (.int cd) ∧ Arv Z h t kb .byte N2 vs (.int 0) ∧ CodA cs cd N2 vs ∧ (∀ c ∈ cs, ¬ c < 0 ∧ ¬ (65535 : Int32) < c) ∧ cs.length ≤ 4000
theorem Str.ext (F : Str Z h x cs) (E : Ext h h') : Str Z h' x cs := by
  obtain ⟨a, t, kb, cd, N2, vs, q1, q2, q3, q4⟩ := F
  exact ⟨a.ext E, t, kb, cd, N2, vs, q1.ext E, q2.ext E, q3.ext E, q4⟩
theorem Str.low (A : Exa Z h x ST) {t : Addr} {kb : ClassId} {N : Int32} {n : Nat} (V : Fld Z h x ST "value" "[B" (.ref t)) (C : Fld Z h x ST "coder" "B" (.int 0)) (hn : cs.length = n) (hN : N = Int32.ofNat n) (K : Arv Z h t kb .byte N ((cs.map (fun c => c.toInt8.toInt32)).map Value.int) (.int 0)) (hp : ∀ c ∈ cs, ¬ c < 0 ∧ ¬ (255 : Int32) < c) (hl : n ≤ 4000) : Str Z h x cs := by
  subst hN hn
  refine ⟨A, t, kb, 0, _, _, V, C, K, codOf rfl fun c q => (hp c q).2, fun c q => ⟨(hp c q).1, fun z => (hp c q).2 ?_⟩, hl⟩
  have := Int32.lt_iff_toInt_lt.mp z
  rw [Int32.lt_iff_toInt_lt]
  have e1 : (65535 : Int32).toInt = 65535 := by decide
  have e2 : (255 : Int32).toInt = 255 := by decide
  omega
/-- new String(char[]): the constructor's call, of one to 4,000 signs below 256 -/
theorem w_strInitP (w : Wk p l e R s m args below meth c Z EL own h0 ws T h cells slots S) (hw1 : ∀ d ∈ StrChars.Road.words, d.before a0 Z = true) (wi : (Jvm.Cond.instantiable ST 4).before a0 Z = true) {index : Nat} (wl : (Jvm.Cond.methodLink own index New1.yN).before a0 Z = true) (wm : (Jvm.Cond.instanceMethod New1.yN).before a0 Z = true)
    {b : Addr} {v0 c0 : Value} {ka : ClassId} {N zc : Int32} {n W : Nat} {dv : Value} (E : Exa Z h x ST) (V : Fld Z h x ST "value" "[B" v0) (C : Fld Z h x ST "coder" "B" c0) (K : Arv Z h b ka .char N (cs.map Value.int) dv) (SC : Sta Z Z.heap ST "COMPACT_STRINGS" "Z" (.int zc)) (hz : ¬ zc = 0)
    (hn : cs.length = n) (hN : N = Int32.ofNat n) (h0n : 0 < n) (hl2 : n ≤ 4000) (hcs : ∀ c ∈ cs, ¬ c < 0 ∧ ¬ (255 : Int32) < c) (hxS : x ∈ S) (hx0 : x ∈ ws ∨ h0.size ≤ x) (hZx : Z.heap.size ≤ x) (hd : decode c.code pc = .ok (.invokespecial index, 3)) (hsz : Ls.size = c.maxLocals) (hW : (rest.map fun v => v.category).sum ≤ W) (hf : 4 ≤ R.frames) (hl : W + 65 ≤ R.locals) (hc : cells + 1 ≤ R.cells) (hsl : slots + n ≤ R.slots) (hp : pc + 3 = pc')
    (k : ∀ T' h', Wk p l e R s m args below meth c Z EL own h0 ws T' h' (cells + 1) (slots + n) S → Keep h h' [x] → Str Z h' x cs → Run p e below Q T' (mkF m pc' Ls rest)) : Run p e below Q T (mkF m pc Ls (.ref b :: .ref x :: rest)) := by
  obtain ⟨vm0, k0, locs, hx, X, eT, r⟩ := w
  obtain ⟨v, vm1, ⟨T', L', c', n'⟩, -, X', ⟨L, hQ, y1, y2, y3⟩, stp⟩ := X.specialBack hx (y := New1.yN) rfl r.ow (mvT r.hZ wl) (mvT r.hZ wm) (mvT r.hZ (hw1 _ (List.mem_of_getElem? (i := 0) rfl))) (by decide) (StrChars.Road.backV (W := W) r.hZ hw1 (kI := 4) wi (cs := cs) (bs := cs.map fun c => c.toInt8.toInt32) (n := n) (n0 := Z.heap.size) hZx r.old.1 E V C K (SC.ext r.old) hz hn hN h0n hl2 hcs rfl hf hl) (g := mkF m pc Ls (.ref b :: .ref x :: rest)) rfl hsz (Steps.refl _) (a := x) (argsL := [.ref b]) (rest := rest) (lenOf (by decide +kernel : parseMethodDescriptor "([C)V" = some ⟨[.array .char], none⟩) rfl) rfl (by show 2 * 0 + _ ≤ _; omega) hd (fun _ _ => ⟨rfl, eT, hc, hsl⟩)
  dsimp only [Pt.U, Pt.locs, Pt.cells, Pt.slots] at X' hQ y1 y2 y3 stp
  subst y1 y2 y3 hp
  obtain ⟨rfl, N', K', A, C', t, kb, -, -, -, V', B⟩ := hQ
  have Sx := (r.2.2.2.2.2.2.2.2.2 x hxS).2
  have hCr : CHr Z EL vm0 h vm0 T'.heap := CHr.keep K' (fun y q => by rw [List.mem_singleton.mp q]; exact Sx) r.ch
  obtain ⟨a1, a2, a3, a4, a5, a6, a7, a8, a9, a10⟩ := r
  have r' : Rs s m Z EL own h0 ws vm0 k0 (locs ++ L) T'.heap S := ⟨a1, Nat.le_trans a2 K'.1, a3, a4, a5.trans hCr, a6.app N', a7.trans K' (fun y q => by rw [List.mem_singleton.mp q]; exact hx0), a8, a9, fun y q => ⟨Nat.lt_of_lt_of_le (a10 y q).1 K'.1, hCr.safe (a10 y q).1 (a10 y q).2⟩⟩
  exact Run.stp stp (k T' T'.heap ⟨vm0, k0, _, hx, X', rfl, r'⟩ K' (Str.low A V' C' hn hN B hcs hl2))
/-- String.<init>(char[], int, int, Void) of an empty array -/
theorem init4_0 (hEL : EW Z a0 EL) (hmem : ("java/lang/String", 7) ∈ EL) (hw1 : ∀ d ∈ StrChars.Road.words, d.before a0 Z = true) (hw2 : ∀ d ∈ wordsS, d.before a0 Z = true) {x b : Addr} {v0 c0 : Value} (E : Exa Z h x ST) (V : Fld Z h x ST "value" "[B" v0) (C : Fld Z h x ST "coder" "B" c0) :
    Met l Z EL New4.yN New4.yB 6 none { frames := 1, cells := 4, slots := 8, locals := 12 } #[.ref x, .ref b, .int 0, .int 0, .null] h [x] [x] (fun v h' => v = none ∧ Exa Z h' x ST ∧ Fld Z h' x ST "coder" "B" (.int 0) ∧ ∃ t kb, Fld Z h' x ST "value" "[B" (.ref t) ∧ Arv Z h' t kb .byte 0 [] (.int 0)) := by
  have wS : ∀ d ∈ Bundle.stringAtoms, d.before a0 Z = true := fun d q => hw2 d (List.mem_cons_of_mem _ q)
  have wL : (Jvm.Cond.stringLink ST 7 "").before a0 Z = true := hw2 _ (List.mem_cons_self ..)
  have wi : (Jvm.Cond.instantiable ST 4).before a0 Z = true := wS _ (List.mem_of_getElem? (i := 1) rfl)
  have lv : (Jvm.Cond.laysFinal ST ST "value" "[B").before a0 Z = true := hw1 _ (List.mem_of_getElem? (i := 6) rfl)
  have lc : (Jvm.Cond.laysFinal ST ST "coder" "B").before a0 Z = true := hw1 _ (List.mem_of_getElem? (i := 8) rfl)
  have fv : (Jvm.Cond.fieldLink ST 9 ST "value" "[B").before a0 Z = true := hw1 _ (List.mem_of_getElem? (i := 7) rfl)
  have fc : (Jvm.Cond.fieldLink ST 15 ST "coder" "B").before a0 Z = true := hw1 _ (List.mem_of_getElem? (i := 9) rfl)
  refine Met.of (plainFor_of_name pnS) ?_
  intro p e s m below meth c T hnm hret hlk hby hml hs w
  refine Run.cast (ef4 m x b) ?_
  refine s_aload_n w (hb hby New4.d0) rfl rfl (pc' := 1) rfl ?_
  refine w_objInit w (hw1 _ (List.mem_of_getElem? (i := 10) rfl)) (hw1 _ (List.mem_of_getElem? (i := 11) rfl)) (hw1 _ (List.mem_of_getElem? (i := 12) rfl)) (hb hby New4.d1) (by rw [hml]; rfl) (by decide) (W := 0) (by decide) (by decide) (pc' := 4) rfl fun T w => ?_
  refine s_iload_n w (hb hby New4.d4) rfl (pc' := 5) rfl ?_
  refine s_if_ne w (hb hby New4.d5) (by decide) (pc1 := 8) rfl (pc2 := 27) rfl (fun _ => ?_) (fun q => absurd rfl q)
  refine s_aload_n w (hb hby e4_8) rfl rfl (pc' := 9) rfl ?_
  refine w_ldcS w hEL wL wS hmem (vs := []) (z := 0) (n := 0) ⟨by decide, rfl⟩ (by decide) rfl (by decide) (by decide) (hb hby e4_9) (pc' := 11) rfl (by decide) (by decide) fun T h1 q t kb w E1 A1 C1 V1 K1 N1 => ?_
  refine w_getF w fv Via.refl V1 (hb hby e4_11) (pc' := 14) rfl fun T w => ?_
  refine w_putF w fv Via.refl (V.ext E1) (E.ext E1) (Or.inr ⟨lv, rfl, hnm⟩) wi (ty := .array .byte) (by decide) rfl rfl (hb hby e4_14) (Or.inl (List.mem_singleton.mpr rfl)) (Or.inr (List.mem_singleton.mpr rfl)) (pc' := 17) rfl fun T h2 w W2 F2 X2 => ?_
  refine s_aload_n w (hb hby e4_17) rfl rfl (pc' := 18) rfl ?_
  refine w_ldcS w hEL wL wS hmem (vs := []) (z := 0) (n := 0) ⟨by decide, rfl⟩ (by decide) rfl (by decide) (by decide) (hb hby e4_18) (pc' := 20) rfl (by decide) (by decide) fun T h3 q' t' kb' w E3 A3 C3 V3 K3 N3 => ?_
  refine w_getF w fc Via.refl C3 (hb hby e4_20) (pc' := 23) rfl fun T w => ?_
  have ne : t ≠ x := fun z => (N1 x (List.mem_singleton.mpr rfl)).2 z.symm
  have sn : Jvm.RoadKit.slotOf Z ST "value" "[B" ≠ Jvm.RoadKit.slotOf Z ST "coder" "B" := slot_ne (Or.inr lv) (Or.inr lc) (by decide) (t := .array .byte) (t' := .byte) (by decide) (by decide)
  have C2 := (C.ext E1).other W2 (Or.inr sn.symm)
  refine w_putF w fc Via.refl (C2.ext E3) (X2.ext E3) (Or.inr ⟨lc, rfl, hnm⟩) wi (ty := .byte) (by decide) rfl rfl (hb hby e4_23) (Or.inl (List.mem_singleton.mpr rfl)) (Or.inr (List.mem_singleton.mpr rfl)) (pc' := 26) rfl fun T h4 w W4 F4 X4 => ?_
  refine w_return w hEL hs hlk hret (hb hby e4_26) (by decide) (by decide) ⟨rfl, X4, F4, t, kb, (F2.ext E3).other W4 (Or.inr sn), ((K1.other W2 ne).ext E3).other W4 ne⟩
theorem init1_0 (hEL : EW Z a0 EL) (hmem : ("java/lang/String", 7) ∈ EL) (hw1 : ∀ d ∈ StrChars.Road.words, d.before a0 Z = true) (hw2 : ∀ d ∈ wordsS, d.before a0 Z = true) {x b : Addr} {v0 c0 : Value} (E : Exa Z h x ST) (V : Fld Z h x ST "value" "[B" v0) (C : Fld Z h x ST "coder" "B" c0) {ka : ClassId} {vs : List Value} {dv : Value} (K : Arv Z h b ka .char 0 vs dv) :
    Met l Z EL New1.yN New1.yB 2 none { frames := 2, cells := 4, slots := 8, locals := 29 } #[.ref x, .ref b] h [x] [x] (fun v h' => v = none ∧ Exa Z h' x ST ∧ Fld Z h' x ST "coder" "B" (.int 0) ∧ ∃ t kb, Fld Z h' x ST "value" "[B" (.ref t) ∧ Arv Z h' t kb .byte 0 [] (.int 0)) := by
  refine Met.of (plainFor_of_name pnS) ?_
  intro p e s m below meth c T hnm hret hlk hby hml hs w
  refine Run.cast (ef1 m x b) ?_
  refine s_aload_n w (hb hby New1.d0) rfl rfl (pc' := 1) rfl ?_
  refine s_aload_n w (hb hby New1.d1) rfl rfl (pc' := 2) rfl ?_
  refine s_iconst w (hb hby New1.d2) (v := 0) rfl (pc' := 3) rfl ?_
  refine s_aload_n w (hb hby New1.d3) rfl rfl (pc' := 4) rfl ?_
  refine w_len w K (hb hby New1.d4) (pc' := 5) rfl ?_
  refine s_anull w (hb hby New1.d5) (pc' := 6) rfl ?_
  refine w_special w hEL (y := New4.yN) rfl (hw1 _ (List.mem_of_getElem? (i := 2) rfl)) (hw1 _ (List.mem_of_getElem? (i := 3) rfl)) (hw1 _ (List.mem_of_getElem? (i := 1) rfl)) (hw1 _ (List.mem_of_getElem? (i := 4) rfl)) (by decide) (init4_0 (b := b) hEL hmem hw1 hw2 E V C) (fun _ q => q) (fun _ q => Or.inl q) (argsL := [.ref b, .int 0, .int 0, .null]) (rest := []) (lenOf (by decide +kernel : parseMethodDescriptor "([CIILjava/lang/Void;)V" = some ⟨[.array .char, .int, .int, .object "java/lang/Void"], none⟩) rfl) rfl rfl (hb hby New1.d6) (by rw [hml]; rfl) (W := 0) (by decide) (by decide) (by decide) (by decide) (by decide) (pc' := 9) rfl fun v T h' w K' P' => ?_
  obtain ⟨rfl, q⟩ := P'
  exact w_return w hEL hs hlk hret (hb hby New1.d9) (by decide) (by decide) ⟨rfl, q⟩
/-- new String(char[]): the constructor's call, of no sign or of up to 4,000 signs below 256 -/
theorem w_strInit (w : Wk p l e R s m args below meth c Z EL own h0 ws T h cells slots S) (hEL : EW Z a0 EL) (hmem : ("java/lang/String", 7) ∈ EL) (hw1 : ∀ d ∈ StrChars.Road.words, d.before a0 Z = true) (hw2 : ∀ d ∈ wordsS, d.before a0 Z = true) {index : Nat} (wl : (Jvm.Cond.methodLink own index New1.yN).before a0 Z = true) (wm : (Jvm.Cond.instanceMethod New1.yN).before a0 Z = true)
    {b : Addr} {v0 c0 : Value} {ka : ClassId} {N zc : Int32} {n W : Nat} {dv : Value} (E : Exa Z h x ST) (V : Fld Z h x ST "value" "[B" v0) (C : Fld Z h x ST "coder" "B" c0) (K : Arv Z h b ka .char N (cs.map Value.int) dv) (SC : Sta Z Z.heap ST "COMPACT_STRINGS" "Z" (.int zc)) (hz : ¬ zc = 0)
    (hn : cs.length = n) (hN : N = Int32.ofNat n) (hl2 : n ≤ 4000) (hcs : ∀ c ∈ cs, ¬ c < 0 ∧ ¬ (255 : Int32) < c) (hxS : x ∈ S) (hx0 : x ∈ ws ∨ h0.size ≤ x) (hZx : Z.heap.size ≤ x) (hd : decode c.code pc = .ok (.invokespecial index, 3)) (hsz : Ls.size = c.maxLocals) (hW : (rest.map fun v => v.category).sum ≤ W) (hf : 4 ≤ R.frames) (hl : W + 65 ≤ R.locals) (hc : cells + 4 ≤ R.cells) (hsl : slots + (n + 8) ≤ R.slots) (hp : pc + 3 = pc')
    (k : ∀ T' h', Wk p l e R s m args below meth c Z EL own h0 ws T' h' (cells + 4) (slots + (n + 8)) S → Keep h h' [x] → Str Z h' x cs → Run p e below Q T' (mkF m pc' Ls rest)) : Run p e below Q T (mkF m pc Ls (.ref b :: .ref x :: rest)) := by
  by_cases h0n : n = 0
  · subst h0n
    obtain rfl : cs = [] := List.eq_nil_of_length_eq_zero hn
    subst hN
    refine w_special w hEL (y := New1.yN) rfl wl wm (hw1 _ (List.mem_of_getElem? (i := 1) rfl)) (hw1 _ (List.mem_of_getElem? (i := 0) rfl)) (by decide) (init1_0 hEL hmem hw1 hw2 E V C K) (fun y q => by rw [List.mem_singleton.mp q]; exact hxS) (fun y q => by rw [List.mem_singleton.mp q]; exact hx0) (argsL := [.ref b]) (rest := rest) (lenOf (by decide +kernel : parseMethodDescriptor "([C)V" = some ⟨[.array .char], none⟩) rfl) rfl rfl hd hsz (W := W) hW (by show 2 + 1 ≤ _; omega) (by show W + (2 + 11) + 29 ≤ _; omega) hc (by show slots + 8 ≤ _; omega) hp fun v T' h' w' K' P' => ?_
    obtain ⟨rfl, A, C', t, kb, V', B⟩ := P'
    exact k T' h' (w'.mono (Nat.le_refl _) (by show slots + 8 ≤ slots + (0 + 8); omega)) K' (Str.low A V' C' rfl rfl B hcs (by decide))
  · exact w_strInitP w hw1 (hw2 _ (List.mem_of_getElem? (i := 2) rfl)) wl wm E V C K SC hz hn hN (Nat.pos_of_ne_zero h0n) hl2 hcs hxS hx0 hZx hd hsz hW hf hl (by omega) (by omega) hp fun T' h' w' => k T' h' (w'.mono (by omega) (by omega))
/-- String.equals of two Strings -/
theorem w_strEq (w : Wk p l e R s m args below meth c Z EL own h0 ws T h cells slots S) (hwE : ∀ d ∈ StrChars.Road.wordsEq, d.before a0 Z = true) (wi : (Jvm.Cond.instantiable ST 4).before a0 Z = true) {index : Nat} (w1 : (Jvm.Cond.methodLink own index SEq.yN).before a0 Z = true) (w2 : (Jvm.Cond.declares SEq.yN).before a0 Z = true) (w3 : (Jvm.Cond.selects ST SEq.yN SEq.yN).before a0 Z = true) (w4 : (Jvm.Cond.instanceMethod SEq.yN).before a0 Z = true)
    {zc : Int32} {W : Nat} (X : Str Z h x cs) (Y : Str Z h y ds) (SC : Sta Z Z.heap ST "COMPACT_STRINGS" "Z" (.int zc)) (hz : ¬ zc = 0) (hd : decode c.code pc = .ok (.invokevirtual index, 3)) (hsz : Ls.size = c.maxLocals) (hW : (rest.map fun v => v.category).sum ≤ W) (hf : 2 ≤ R.frames) (hl : W + 28 ≤ R.locals) (hc : cells ≤ R.cells) (hsl : slots ≤ R.slots) (hp : pc + 3 = pc')
    (k : ∀ T' (b : Int32), Wk p l e R s m args below meth c Z EL own h0 ws T' h cells slots S → ((b = 1 ∧ cs = ds) ∨ (b = 0 ∧ ¬ cs = ds)) → Run p e below Q T' (mkF m pc' Ls (.int b :: rest))) : Run p e below Q T (mkF m pc Ls (.ref y :: .ref x :: rest)) := by
  obtain ⟨A, t, kb, cd, N2, vs, q1, q2, q3, q4, q5, q6⟩ := X
  obtain ⟨A', t', kb', cd', N2', vs', q1', q2', q3', q4', q5', q6'⟩ := Y
  have SC' := SC.ext w.old
  refine w_virtB w (y := SEq.yN) (y' := SEq.yN) (C := ST) w1 w2 w3 w3 w4 (by decide) A (Pv := fun v => (v = some (.int 1) ∧ cs = ds) ∨ (v = some (.int 0) ∧ ¬ cs = ds)) (as' := #[.ref x, .ref y]) (W := W) (fun vm0 hZ => StrChars.Road.eqW hZ hwE wi A q1 q2 q3 q4 q5 q6 A' q1' q2' q3' q4' q5' q6' SC' hz hf hl) (argsL := [.ref y]) (rest := rest) (lenOf (by decide +kernel : parseMethodDescriptor "(Ljava/lang/Object;)Z" = some ⟨[.object "java/lang/Object"], some .boolean⟩) rfl) rfl rfl hd hsz hW hc hsl hp fun v T' w' P' => ?_
  rcases P' with ⟨rfl, q⟩ | ⟨rfl, q⟩
  · exact k T' 1 w' (Or.inl ⟨rfl, q⟩)
  · exact k T' 0 w' (Or.inr ⟨rfl, q⟩)
end StrK
end Ow
end Jvm.Pilot.@@N@@

namespace Jvm.Pilot.@@N@@
open Jvm Jvm.ClassFile Sem Op Lib Jvm.Free Jvm.Stand Jvm.LawKit Jvm.RoadKit Bundle Jvm.Pilot.@@N@@.Jvm.D
namespace Ow
open StrChars StrChars.Road

/-! plain facts on ints -/
def Lat (c : Int32) : Prop := ¬ c < 0 ∧ ¬ (255 : Int32) < c
theorem i32_0 : (0 : Int32).toInt = 0 := by decide
theorem i32_255 : (255 : Int32).toInt = 255 := by decide
theorem lat_iff {c : Int32} : Lat c ↔ 0 ≤ c.toInt ∧ c.toInt ≤ 255 := by
  unfold Lat
  rw [Int32.lt_iff_toInt_lt, Int32.lt_iff_toInt_lt, i32_0, i32_255]
  omega
theorem nar_char (x : Int32) : nar .char x = x.toUInt32.toUInt16.toUInt32.toInt32 := rfl
theorem nar_id {c : Int32} (h : 0 ≤ c.toInt ∧ c.toInt < 65536) : nar .char c = c := by
  have q := c_i2c c
  rw [← nar_char] at q
  rw [← Int32.toInt_inj]
  omega
theorem Lat.nar {c : Int32} (h : Lat c) : nar .char c = c := nar_id (by have := lat_iff.mp h; omega)
theorem lat_mask (x : Int32) : Lat (Jvm.RoadKit.nar .char (x &&& 255)) := by
  have q := c_i2c (x &&& 255)
  rw [← nar_char] at q
  have m := c_mask x 255 8 (by decide) (by decide)
  rw [lat_iff]
  omega
theorem mask_le (x : Int32) (m : Int32) (k : Nat) (hk : k ≤ 31) (hm : m.toBitVec.toNat = 2 ^ k - 1) : 0 ≤ (x &&& m).toInt ∧ (x &&& m).toInt < (2 ^ k : Nat) := by
  rw [c_mask x m k hk hm]
  have : (0 : Int) < (2 ^ k : Nat) := by exact_mod_cast Nat.pos_of_ne_zero (by simp)
  exact ⟨Int.emod_nonneg _ (by omega), Int.emod_lt_of_pos _ this⟩
theorem toInt_eq {x y : Int32} {n : Int} (h : x.toInt = n) (hy : y.toInt = n) : x = y := Int32.toInt_inj.mp (h.trans hy.symm)
theorem and3 (x : Int32) : x &&& 3 = 0 ∨ x &&& 3 = 1 ∨ x &&& 3 = 2 ∨ x &&& 3 = 3 := by
  have m := mask_le x 3 2 (by decide) (by decide)
  have h : (x &&& 3).toInt = 0 ∨ (x &&& 3).toInt = 1 ∨ (x &&& 3).toInt = 2 ∨ (x &&& 3).toInt = 3 := by omega
  rcases h with h | h | h | h
  · exact Or.inl (toInt_eq h (by decide))
  · exact Or.inr (Or.inl (toInt_eq h (by decide)))
  · exact Or.inr (Or.inr (Or.inl (toInt_eq h (by decide))))
  · exact Or.inr (Or.inr (Or.inr (toInt_eq h (by decide))))
theorem rem3 (x : Int32) : (x &&& 3) % 3 = 0 ∨ (x &&& 3) % 3 = 1 ∨ (x &&& 3) % 3 = 2 := by
  rcases and3 x with h | h | h | h <;> rw [h] <;> decide
theorem ne_int {args : Array Value} {s : State} {t : Term} {n x : Int32} (ht : t.eval args s none [] s = some (.int x)) (h : (Jvm.Cond.not (.eq t (.int n))).before args s = true) : ¬ x = n := by
  intro q; subst q
  have h1 := not_v (Cond.before_iff.mp h)
  have hi : (Term.int x).eval args s none [] s = some (.int x) := rfl
  simp only [Jvm.Cond.value, ht, hi] at h1
  simp at h1
theorem eq_int {args : Array Value} {s : State} {t : Term} {n : Int32} (h : (Jvm.Cond.eq t (.int n)).value args s none s [] = some true) : t.eval args s none [] s = some (.int n) := by
  cases ht : t.eval args s none [] s with
  | none => simp [Jvm.Cond.value, ht] at h
  | some v => cases v <;> simp [Jvm.Cond.value, ht, Term.eval] at h ⊢; exact h
theorem flag {e : Int32} {A : Prop} (h : (e = 1 ∧ A) ∨ (e = 0 ∧ ¬ A)) : ¬ e = 0 ↔ A := by
  rcases h with ⟨rfl, q⟩ | ⟨rfl, q⟩
  · exact ⟨fun _ => q, fun _ => by decide⟩
  · exact ⟨fun z => absurd rfl z, fun z => absurd z q⟩
theorem val {e f : Int32} {A B : Prop} [Decidable B] (h : (e = 1 ∧ A) ∨ (e = 0 ∧ ¬ A)) (hf : (if B then (1 : Int32) else 0) = f) (hab : B ↔ A) : f = e := by
  rw [← hf]
  rcases h with ⟨rfl, q⟩ | ⟨rfl, q⟩
  · exact if_pos (hab.mpr q)
  · exact if_neg fun z => q (hab.mp z)

theorem sub1 : ∀ d ∈ StrChars.Road.words, d ∈ tables_1 := by decide +kernel
theorem subA : ∀ d ∈ Bundle.stringAtoms, d ∈ tables_1 := by decide +kernel
theorem sub2 : ∀ d ∈ wordsS, d ∈ tables_1 := by decide +kernel
theorem hmem : ("java/lang/String", 7) ∈ consts_1 := by decide
theorem subE : ∀ d ∈ StrChars.Road.wordsEq, d ∈ tables_1 := by decide +kernel
def Gl (Z : State) (a0 : Array Value) (zc : Int32)  : Prop :=
  (∀ d ∈ tables_1, d.before a0 Z = true) ∧ EW Z a0 consts_1 ∧ Sta Z Z.heap ST "COMPACT_STRINGS" "Z" (.int zc) ∧ ¬ zc = 0 ∧ (Sta Z Z.heap "java/lang/StringUTF16" "$assertionsDisabled" "Z" (.int 1)) ∧ (Sta Z Z.heap "java/lang/StringUTF16" "HI_BYTE_SHIFT" "I" (.int 0)) ∧ (Sta Z Z.heap "java/lang/StringUTF16" "LO_BYTE_SHIFT" "I" (.int 8))
theorem Str.lat {Z : State} {h : Heap} {x : Addr} {cs : List Int32} (F : Str Z h x cs) (hc : ∀ c ∈ cs, Lat c) : ∃ t kb, Fld Z h x ST "value" "[B" (.ref t) ∧ Fld Z h x ST "coder" "B" (.int 0) ∧ Arv Z h t kb .byte (Int32.ofNat cs.length) (cs.map fun c => Value.int (lo8 c)) (.int 0) ∧ cs.length ≤ 4000 := by
  obtain ⟨a, t, kb, cd, N2, vs, q1, q2, q3, q4, q5, q6⟩ := F
  rcases q4 with ⟨rfl, rfl, rfl, -⟩ | ⟨-, -, -, c, z1, z2⟩
  · exact ⟨t, kb, q1, q2, q3, q6⟩
  · exact absurd z2 (hc c z1).2
theorem ofNat_lt {n : Nat} (h : n ≤ 4000) : ¬ (Int32.ofNat n) < 0 := by
  rw [Int32.lt_iff_toInt_lt, Int32.toInt_ofNat_of_lt (by omega), i32_0]; omega
theorem ofNat_nat {n : Nat} (h : n ≤ 4000) : (Int32.ofNat n).toNatClampNeg = n := by
  show (Int32.ofNat n).toInt.toNat = n
  rw [Int32.toInt_ofNat_of_lt (by omega)]; rfl
theorem ofNat_cmp {n k : Nat} (h : n ≤ 4000) (h' : k ≤ 4000) : Int32.ofNat n < Int32.ofNat k ↔ n < k := by
  rw [Int32.lt_iff_toInt_lt, Int32.toInt_ofNat_of_lt (by omega), Int32.toInt_ofNat_of_lt (by omega)]; omega
theorem ofNat_succ (n : Nat) : Int32.ofNat n + 1 = Int32.ofNat (n + 1) := by
  rw [Int32.ofNat_add]; rfl

theorem nar_byte (x : Int32) : nar .byte x.toInt8.toInt32 = x.toInt8.toInt32 := by show x.toInt8.toInt32.toInt8.toInt32 = _; simp
def Chr (c : Int32) : Prop := ¬ c < 0 ∧ ¬ (65535 : Int32) < c
theorem mapI_getD {cs : List Int32} {j : Nat} (h : j < cs.length) : (cs.map Value.int).getD j (.int 0) = .int (cs.getD j 0) := by
  simp [List.getD, h]
theorem getD_memC {cs : List Int32} {j : Nat} (h : j < cs.length) : cs.getD j 0 ∈ cs := by simp [List.getD, h]
theorem fill_step {f : Int32 → Value} {v : Value} : ∀ (cs : List Int32) (j : Nat), j < cs.length → (((cs.take j).map f) ++ List.replicate (cs.length - j) v).set j (f (cs.getD j 0)) = ((cs.take (j + 1)).map f) ++ List.replicate (cs.length - (j + 1)) v
  | [], j, h => absurd h (Nat.not_lt_zero j)
  | c :: cs, 0, _ => by simp [List.replicate_succ]
  | c :: cs, j + 1, h => by
    have q := fill_step (f := f) (v := v) cs j (by simpa using h)
    simpa using q
theorem wide_step {v : Value} : ∀ (cs : List Int32) (j : Nat), j < cs.length → ((wideBytes (cs.take j) ++ List.replicate (2 * (cs.length - j)) v).set (2 * j) (.int (lo8 (cs.getD j 0)))).set (2 * j + 1) (.int (hi8 (cs.getD j 0))) = wideBytes (cs.take (j + 1)) ++ List.replicate (2 * (cs.length - (j + 1))) v
  | [], j, h => absurd h (Nat.not_lt_zero j)
  | c :: cs, 0, _ => by
    rw [show 2 * ((c :: cs).length - 0) = 2 * cs.length + 1 + 1 from by simp; omega]
    simp [List.replicate_succ, wideBytes]
  | c :: cs, j + 1, h => by
    have q := wide_step (v := v) cs j (by simpa using h)
    rw [show 2 * (j + 1) = 2 * j + 1 + 1 from by omega]
    simpa [wideBytes] using q
theorem take_mem {cs : List Int32} {j : Nat} {c : Int32} (h : j < cs.length) (q : c ∈ cs.take (j + 1)) : c ∈ cs.take j ∨ c = cs.getD j 0 := by
  rw [List.take_add_one, List.mem_append] at q
  rcases q with q | q
  · exact Or.inl q
  · right
    simp [h] at q
    simp [List.getD, h, q]
theorem wide_len : ∀ cs : List Int32, (wideBytes cs).length = 2 * cs.length
  | [] => rfl
  | c :: cs => by simp [wideBytes, wide_len cs]; omega
theorem ofN_shl_ : ∀ n : Fin 33, (Int32.ofNat n.val) <<< ((1 : Int32) &&& 31) = Int32.ofNat (2 * n.val) := by decide
theorem ofN_shl {n : Nat} (h : n ≤ 32) : (Int32.ofNat n) <<< ((1 : Int32) &&& 31) = Int32.ofNat (2 * n) := ofN_shl_ ⟨n, by omega⟩
theorem ofN_inj {n k : Nat} (h : n ≤ 4000) (h' : k ≤ 4000) (q : Int32.ofNat n = Int32.ofNat k) : n = k := by
  have e := congrArg Int32.toNatClampNeg q
  rwa [ofNat_nat h, ofNat_nat h'] at e
theorem cdr0_ : ∀ n : Fin 33, (XT.ushr (Int32.ofNat n.val - Int32.ofNat n.val) 31).toInt8.toInt32 = 0 := by decide
theorem cdr1_ : ∀ n : Fin 33, 0 < n.val → (XT.ushr (Int32.ofNat n.val - Int32.ofNat (2 * n.val)) 31).toInt8.toInt32 = 1 := by decide
theorem coda_coder {cs : List Int32} {cd N N2 : Int32} {vs : List Value} (C : CodA cs cd N2 vs) (hN : N = Int32.ofNat cs.length) (h0 : 0 < cs.length) (hl : cs.length ≤ 32) : (XT.ushr (N - N2) 31).toInt8.toInt32 = cd := by
  subst hN
  rcases C with ⟨rfl, rfl, -, -⟩ | ⟨rfl, rfl, -, -⟩
  · exact cdr0_ ⟨cs.length, by omega⟩
  · exact cdr1_ ⟨cs.length, by omega⟩ h0
theorem coda_bit {cs : List Int32} {cd N2 : Int32} {vs : List Value} (C : CodA cs cd N2 vs) : narrow .byte (.int cd) = .int cd ∧ fits .byte (.int cd) = true := by
  rcases C with ⟨rfl, -⟩ | ⟨rfl, -⟩
  · exact ⟨rfl, rfl⟩
  · exact ⟨rfl, rfl⟩
theorem allP {x : Addr} {P : Addr → Prop} (q : P x) : ∀ y ∈ [x], P y := fun y z => by rw [List.mem_singleton.mp z]; exact q

theorem dgch_0 : decode jdk_52_method_5_code 0 = .ok (.getstatic 44, 3) := by decide +kernel
theorem dgch_3 : decode jdk_52_method_5_code 3 = .ok (.ifCond .ne 25, 3) := by decide +kernel
theorem dgch_6 : decode jdk_52_method_5_code 6 = .ok (.iload_n 1, 1) := by decide +kernel
theorem dgch_7 : decode jdk_52_method_5_code 7 = .ok (.ifCond .lt 11, 3) := by decide +kernel
theorem dgch_10 : decode jdk_52_method_5_code 10 = .ok (.iload_n 1, 1) := by decide +kernel
theorem dgch_11 : decode jdk_52_method_5_code 11 = .ok (.aload_n 0, 1) := by decide +kernel
theorem dgch_12 : decode jdk_52_method_5_code 12 = .ok (.invokestatic 48, 3) := by decide +kernel
theorem dgch_15 : decode jdk_52_method_5_code 15 = .ok (.if_icmp .lt 13, 3) := by decide +kernel
theorem dgch_18 : decode jdk_52_method_5_code 18 = .ok (.new 52, 3) := by decide +kernel
theorem dgch_21 : decode jdk_52_method_5_code 21 = .ok (.dup, 1) := by decide +kernel
theorem dgch_22 : decode jdk_52_method_5_code 22 = .ok (.ldc 54, 2) := by decide +kernel
theorem dgch_24 : decode jdk_52_method_5_code 24 = .ok (.invokespecial 56, 3) := by decide +kernel
theorem dgch_27 : decode jdk_52_method_5_code 27 = .ok (.athrow, 1) := by decide +kernel
theorem dgch_28 : decode jdk_52_method_5_code 28 = .ok (.iload_n 1, 1) := by decide +kernel
theorem dgch_29 : decode jdk_52_method_5_code 29 = .ok (.iconst 1, 1) := by decide +kernel
theorem dgch_30 : decode jdk_52_method_5_code 30 = .ok (.ishl, 1) := by decide +kernel
theorem dgch_31 : decode jdk_52_method_5_code 31 = .ok (.istore_n 1, 1) := by decide +kernel
theorem dgch_32 : decode jdk_52_method_5_code 32 = .ok (.aload_n 0, 1) := by decide +kernel
theorem dgch_33 : decode jdk_52_method_5_code 33 = .ok (.iload_n 1, 1) := by decide +kernel
theorem dgch_34 : decode jdk_52_method_5_code 34 = .ok (.iinc 1 1, 3) := by decide +kernel
theorem dgch_37 : decode jdk_52_method_5_code 37 = .ok (.baload, 1) := by decide +kernel
theorem dgch_38 : decode jdk_52_method_5_code 38 = .ok (.sipush 255, 3) := by decide +kernel
theorem dgch_41 : decode jdk_52_method_5_code 41 = .ok (.iand, 1) := by decide +kernel
theorem dgch_42 : decode jdk_52_method_5_code 42 = .ok (.getstatic 59, 3) := by decide +kernel
theorem dgch_45 : decode jdk_52_method_5_code 45 = .ok (.ishl, 1) := by decide +kernel
theorem dgch_46 : decode jdk_52_method_5_code 46 = .ok (.aload_n 0, 1) := by decide +kernel
theorem dgch_47 : decode jdk_52_method_5_code 47 = .ok (.iload_n 1, 1) := by decide +kernel
theorem dgch_48 : decode jdk_52_method_5_code 48 = .ok (.baload, 1) := by decide +kernel
theorem dgch_49 : decode jdk_52_method_5_code 49 = .ok (.sipush 255, 3) := by decide +kernel
theorem dgch_52 : decode jdk_52_method_5_code 52 = .ok (.iand, 1) := by decide +kernel
theorem dgch_53 : decode jdk_52_method_5_code 53 = .ok (.getstatic 63, 3) := by decide +kernel
theorem dgch_56 : decode jdk_52_method_5_code 56 = .ok (.ishl, 1) := by decide +kernel
theorem dgch_57 : decode jdk_52_method_5_code 57 = .ok (.ior, 1) := by decide +kernel
theorem dgch_58 : decode jdk_52_method_5_code 58 = .ok (.i2c, 1) := by decide +kernel
theorem dgch_59 : decode jdk_52_method_5_code 59 = .ok (.ireturn, 1) := by decide +kernel
theorem pn_0 : plainName "java/lang/StringUTF16" = true := by first | (simp [plainName, overriddenIn]; done) | decide +kernel
theorem ef_gch (m : MethodId) (t : Addr) (J : Int32) : entryFrame m #[.ref t, .int J] 2 = mkF m 0 #[.val (.ref t), .val (.int J)] [] := by first | (simp [entryFrame, mkF, argsToLocals, Value.category]; done) | rfl
set_option maxRecDepth 65536 in
set_option maxHeartbeats 40000000 in
theorem rm_gch {l : Launch} {Z : State} {a0 : Array Value} {zc : Int32}  (G : Gl Z a0 zc ) (h : Heap) (t : Addr) (J : Int32) (j : Nat) (hJ : J = Int32.ofNat j) (kt : ClassId) (cs : List Int32) (N : Int32) (hN : N = Int32.ofNat (2 * cs.length)) (K : Arv Z h t kt .byte N (wideBytes cs) (.int 0)) (hj : j < cs.length) (hl : cs.length ≤ 32) (hcs : ∀ c ∈ cs, Chr c) :
    Met l Z consts_1 (⟨"java/lang/StringUTF16", "getChar", "([BI)C"⟩ : MethodName) jdk_52_method_5_code 2 (some .char) ({ frames := 0, cells := 0, slots := 0, locals := 0 } : Room) #[.ref t, .int J] h [] [] (fun v h' => v = some (.int (cs.getD j 0)) ∧ h = h') := by
  have G0 := G
  obtain ⟨hw, hEL, SC, hz, SA, SH, SL⟩ := G
  have hw1 : ∀ d ∈ StrChars.Road.words, d.before a0 Z = true := fun d q => hw d (sub1 d q)
  have hwA : ∀ d ∈ Bundle.stringAtoms, d.before a0 Z = true := fun d q => hw d (subA d q)
  have hw2 : ∀ d ∈ wordsS, d.before a0 Z = true := fun d q => hw d (sub2 d q)
  have hwE : ∀ d ∈ StrChars.Road.wordsEq, d.before a0 Z = true := fun d q => hw d (subE d q)
  refine Met.of (plainFor_of_name pn_0) ?_
  intro p e s m below meth c T hnm hret hlk hby hml hs w
  have hZ0 := w.old
  refine Run.cast (ef_gch m t J) ?_
  have hj32 : j ≤ 32 := by omega
  refine w_getS w (hw _ (List.mem_of_getElem? (i := 73) rfl)) Via.refl (SA.ext w.old) (hb hby dgch_0) (pc' := 3) rfl fun T w => ?_
  refine s_if_ne w (hb hby dgch_3) (by decide) (pc1 := 6) rfl (pc2 := 28) rfl (fun q => absurd q (by decide)) (fun _ => ?_)
  refine s_iload_n w (hb hby dgch_28) rfl (pc' := 29) rfl ?_
  refine s_iconst w (hb hby dgch_29) (v := 1) rfl (pc' := 30) rfl ?_
  refine s_ishl w (hb hby dgch_30) (pc' := 31) rfl ?_
  refine s_istore_n w #[.val (.ref t), .val (.int (J <<< (1 &&& 31)))] (hb hby dgch_31) rfl (pc' := 32) rfl ?_
  rw [hJ, ofN_shl hj32]
  refine s_aload_n w (hb hby dgch_32) rfl rfl (pc' := 33) rfl ?_
  refine s_iload_n w (hb hby dgch_33) rfl (pc' := 34) rfl ?_
  refine s_iinc w #[.val (.ref t), .val (.int ((Int32.ofNat (2 * j)) + 1))] (hb hby dgch_34) (v := 1) rfl rfl rfl (pc' := 37) rfl ?_
  rw [ofNat_succ]
  refine w_ldB w K (i := 2 * j) (ofNat_lt (by omega)) (ofNat_nat (by omega)) (by rw [hN, ofNat_nat (by omega)]; omega) (wide_lo _ cs j hj) (hb hby dgch_37) (pc' := 38) rfl ?_
  refine s_sipush w (hb hby dgch_38) (v := 255) rfl (pc' := 41) rfl ?_
  refine s_iand w (hb hby dgch_41) (pc' := 42) rfl ?_
  refine w_getS w (hw _ (List.mem_of_getElem? (i := 74) rfl)) Via.refl (SH.ext w.old) (hb hby dgch_42) (pc' := 45) rfl fun T w => ?_
  refine s_ishl w (hb hby dgch_45) (pc' := 46) rfl ?_
  refine s_aload_n w (hb hby dgch_46) rfl rfl (pc' := 47) rfl ?_
  refine s_iload_n w (hb hby dgch_47) rfl (pc' := 48) rfl ?_
  refine w_ldB w K (i := 2 * j + 1) (ofNat_lt (by omega)) (ofNat_nat (by omega)) (by rw [hN, ofNat_nat (by omega)]; omega) (wide_hi _ cs j hj) (hb hby dgch_48) (pc' := 49) rfl ?_
  refine s_sipush w (hb hby dgch_49) (v := 255) rfl (pc' := 52) rfl ?_
  refine s_iand w (hb hby dgch_52) (pc' := 53) rfl ?_
  refine w_getS w (hw _ (List.mem_of_getElem? (i := 75) rfl)) Via.refl (SL.ext w.old) (hb hby dgch_53) (pc' := 56) rfl fun T w => ?_
  refine s_ishl w (hb hby dgch_56) (pc' := 57) rfl ?_
  refine s_ior w (hb hby dgch_57) (pc' := 58) rfl ?_
  refine s_i2c w (hb hby dgch_58) (pc' := 59) rfl ?_
  have e : nar .char (((lo8 (cs.getD j 0) &&& 255) <<< ((0 : Int32) &&& 31)) ||| ((hi8 (cs.getD j 0) &&& 255) <<< ((8 : Int32) &&& 31))) = cs.getD j 0 := pair_says (hcs _ (getD_memC hj)).1 (hcs _ (getD_memC hj)).2
  rw [e]
  exact w_ireturn w hEL hs hlk hret (narrow_ch (hcs _ (getD_memC hj)).1 (hcs _ (getD_memC hj)).2) (Or.inr (Or.inr (Or.inr (Or.inl rfl)))) (hb hby dgch_59) (by decide) (by decide) ⟨rfl, rfl⟩
theorem dpch_0 : decode jdk_52_method_4_code 0 = .ok (.getstatic 44, 3) := by decide +kernel
theorem dpch_3 : decode jdk_52_method_4_code 3 = .ok (.ifCond .ne 25, 3) := by decide +kernel
theorem dpch_6 : decode jdk_52_method_4_code 6 = .ok (.iload_n 1, 1) := by decide +kernel
theorem dpch_7 : decode jdk_52_method_4_code 7 = .ok (.ifCond .lt 11, 3) := by decide +kernel
theorem dpch_10 : decode jdk_52_method_4_code 10 = .ok (.iload_n 1, 1) := by decide +kernel
theorem dpch_11 : decode jdk_52_method_4_code 11 = .ok (.aload_n 0, 1) := by decide +kernel
theorem dpch_12 : decode jdk_52_method_4_code 12 = .ok (.invokestatic 48, 3) := by decide +kernel
theorem dpch_15 : decode jdk_52_method_4_code 15 = .ok (.if_icmp .lt 13, 3) := by decide +kernel
theorem dpch_18 : decode jdk_52_method_4_code 18 = .ok (.new 52, 3) := by decide +kernel
theorem dpch_21 : decode jdk_52_method_4_code 21 = .ok (.dup, 1) := by decide +kernel
theorem dpch_22 : decode jdk_52_method_4_code 22 = .ok (.ldc 54, 2) := by decide +kernel
theorem dpch_24 : decode jdk_52_method_4_code 24 = .ok (.invokespecial 56, 3) := by decide +kernel
theorem dpch_27 : decode jdk_52_method_4_code 27 = .ok (.athrow, 1) := by decide +kernel
theorem dpch_28 : decode jdk_52_method_4_code 28 = .ok (.iload_n 1, 1) := by decide +kernel
theorem dpch_29 : decode jdk_52_method_4_code 29 = .ok (.iconst 1, 1) := by decide +kernel
theorem dpch_30 : decode jdk_52_method_4_code 30 = .ok (.ishl, 1) := by decide +kernel
theorem dpch_31 : decode jdk_52_method_4_code 31 = .ok (.istore_n 1, 1) := by decide +kernel
theorem dpch_32 : decode jdk_52_method_4_code 32 = .ok (.aload_n 0, 1) := by decide +kernel
theorem dpch_33 : decode jdk_52_method_4_code 33 = .ok (.iload_n 1, 1) := by decide +kernel
theorem dpch_34 : decode jdk_52_method_4_code 34 = .ok (.iinc 1 1, 3) := by decide +kernel
theorem dpch_37 : decode jdk_52_method_4_code 37 = .ok (.iload_n 2, 1) := by decide +kernel
theorem dpch_38 : decode jdk_52_method_4_code 38 = .ok (.getstatic 59, 3) := by decide +kernel
theorem dpch_41 : decode jdk_52_method_4_code 41 = .ok (.ishr, 1) := by decide +kernel
theorem dpch_42 : decode jdk_52_method_4_code 42 = .ok (.i2b, 1) := by decide +kernel
theorem dpch_43 : decode jdk_52_method_4_code 43 = .ok (.bastore, 1) := by decide +kernel
theorem dpch_44 : decode jdk_52_method_4_code 44 = .ok (.aload_n 0, 1) := by decide +kernel
theorem dpch_45 : decode jdk_52_method_4_code 45 = .ok (.iload_n 1, 1) := by decide +kernel
theorem dpch_46 : decode jdk_52_method_4_code 46 = .ok (.iload_n 2, 1) := by decide +kernel
theorem dpch_47 : decode jdk_52_method_4_code 47 = .ok (.getstatic 63, 3) := by decide +kernel
theorem dpch_50 : decode jdk_52_method_4_code 50 = .ok (.ishr, 1) := by decide +kernel
theorem dpch_51 : decode jdk_52_method_4_code 51 = .ok (.i2b, 1) := by decide +kernel
theorem dpch_52 : decode jdk_52_method_4_code 52 = .ok (.bastore, 1) := by decide +kernel
theorem dpch_53 : decode jdk_52_method_4_code 53 = .ok (.return_, 1) := by decide +kernel
theorem ef_pch (m : MethodId) (t : Addr) (J : Int32) (c0 : Int32) : entryFrame m #[.ref t, .int J, .int c0] 3 = mkF m 0 #[.val (.ref t), .val (.int J), .val (.int c0)] [] := by first | (simp [entryFrame, mkF, argsToLocals, Value.category]; done) | rfl
set_option maxRecDepth 65536 in
set_option maxHeartbeats 40000000 in
theorem rm_pch {l : Launch} {Z : State} {a0 : Array Value} {zc : Int32}  (G : Gl Z a0 zc ) (h : Heap) (t : Addr) (J : Int32) (c0 : Int32) (j n : Nat) (hJ : J = Int32.ofNat j) (kt : ClassId) (vs : List Value) (N : Int32) (hN : N = Int32.ofNat (2 * n)) (hvs : vs.length = 2 * n) (K : Arv Z h t kt .byte N vs (.int 0)) (hj : j < n) (hl : n ≤ 32) :
    Met l Z consts_1 (⟨"java/lang/StringUTF16", "putChar", "([BII)V"⟩ : MethodName) jdk_52_method_4_code 3 none ({ frames := 0, cells := 0, slots := 0, locals := 0 } : Room) #[.ref t, .int J, .int c0] h [t] [t] (fun v h' => v = none ∧ Arv Z h' t kt .byte N ((vs.set (2 * j) (.int (lo8 c0))).set (2 * j + 1) (.int (hi8 c0))) (.int 0)) := by
  have G0 := G
  obtain ⟨hw, hEL, SC, hz, SA, SH, SL⟩ := G
  have hw1 : ∀ d ∈ StrChars.Road.words, d.before a0 Z = true := fun d q => hw d (sub1 d q)
  have hwA : ∀ d ∈ Bundle.stringAtoms, d.before a0 Z = true := fun d q => hw d (subA d q)
  have hw2 : ∀ d ∈ wordsS, d.before a0 Z = true := fun d q => hw d (sub2 d q)
  have hwE : ∀ d ∈ StrChars.Road.wordsEq, d.before a0 Z = true := fun d q => hw d (subE d q)
  refine Met.of (plainFor_of_name pn_0) ?_
  intro p e s m below meth c T hnm hret hlk hby hml hs w
  have hZ0 := w.old
  refine Run.cast (ef_pch m t J c0) ?_
  have hj32 : j ≤ 32 := by omega
  refine w_getS w (hw _ (List.mem_of_getElem? (i := 73) rfl)) Via.refl (SA.ext w.old) (hb hby dpch_0) (pc' := 3) rfl fun T w => ?_
  refine s_if_ne w (hb hby dpch_3) (by decide) (pc1 := 6) rfl (pc2 := 28) rfl (fun q => absurd q (by decide)) (fun _ => ?_)
  refine s_iload_n w (hb hby dpch_28) rfl (pc' := 29) rfl ?_
  refine s_iconst w (hb hby dpch_29) (v := 1) rfl (pc' := 30) rfl ?_
  refine s_ishl w (hb hby dpch_30) (pc' := 31) rfl ?_
  refine s_istore_n w #[.val (.ref t), .val (.int (J <<< (1 &&& 31))), .val (.int c0)] (hb hby dpch_31) rfl (pc' := 32) rfl ?_
  rw [hJ, ofN_shl hj32]
  refine s_aload_n w (hb hby dpch_32) rfl rfl (pc' := 33) rfl ?_
  refine s_iload_n w (hb hby dpch_33) rfl (pc' := 34) rfl ?_
  refine s_iinc w #[.val (.ref t), .val (.int ((Int32.ofNat (2 * j)) + 1)), .val (.int c0)] (hb hby dpch_34) (v := 1) rfl rfl rfl (pc' := 37) rfl ?_
  rw [ofNat_succ]
  refine s_iload_n w (hb hby dpch_37) rfl (pc' := 38) rfl ?_
  refine w_getS w (hw _ (List.mem_of_getElem? (i := 74) rfl)) Via.refl (SH.ext w.old) (hb hby dpch_38) (pc' := 41) rfl fun T w => ?_
  refine s_ishr w (hb hby dpch_41) (pc' := 42) rfl ?_
  refine s_i2b w (hb hby dpch_42) (pc' := 43) rfl ?_
  refine w_stB w K (i := 2 * j) (ofNat_lt (by omega)) (ofNat_nat (by omega)) (by rw [hN, ofNat_nat (by omega)]; omega) (by first | (rw [hvs]; omega) | (rw [List.length_set, hvs]; omega)) (nar_byte _) (hb hby dpch_43) (Or.inl (List.mem_singleton.mpr rfl)) (List.mem_singleton.mpr rfl) (pc' := 44) rfl fun T g1 w W1 D1 => ?_
  refine s_aload_n w (hb hby dpch_44) rfl rfl (pc' := 45) rfl ?_
  refine s_iload_n w (hb hby dpch_45) rfl (pc' := 46) rfl ?_
  refine s_iload_n w (hb hby dpch_46) rfl (pc' := 47) rfl ?_
  refine w_getS w (hw _ (List.mem_of_getElem? (i := 75) rfl)) Via.refl (SL.ext w.old) (hb hby dpch_47) (pc' := 50) rfl fun T w => ?_
  refine s_ishr w (hb hby dpch_50) (pc' := 51) rfl ?_
  refine s_i2b w (hb hby dpch_51) (pc' := 52) rfl ?_
  refine w_stB w D1 (i := 2 * j + 1) (ofNat_lt (by omega)) (ofNat_nat (by omega)) (by rw [hN, ofNat_nat (by omega)]; omega) (by first | (rw [hvs]; omega) | (rw [List.length_set, hvs]; omega)) (nar_byte _) (hb hby dpch_52) (Or.inl (List.mem_singleton.mpr rfl)) (List.mem_singleton.mpr rfl) (pc' := 53) rfl fun T g2 w W2 D2 => ?_
  rw [shr0] at D2
  exact w_return w hEL hs hlk hret (hb hby dpch_53) (by decide) (by decide) ⟨rfl, D2⟩
theorem dnbl_0 : decode jdk_52_method_3_code 0 = .ok (.iload_n 0, 1) := by decide +kernel
theorem dnbl_1 : decode jdk_52_method_3_code 1 = .ok (.ifCond .ge 11, 3) := by decide +kernel
theorem dnbl_4 : decode jdk_52_method_3_code 4 = .ok (.new 17, 3) := by decide +kernel
theorem dnbl_7 : decode jdk_52_method_3_code 7 = .ok (.dup, 1) := by decide +kernel
theorem dnbl_8 : decode jdk_52_method_3_code 8 = .ok (.invokespecial 19, 3) := by decide +kernel
theorem dnbl_11 : decode jdk_52_method_3_code 11 = .ok (.athrow, 1) := by decide +kernel
theorem dnbl_12 : decode jdk_52_method_3_code 12 = .ok (.iload_n 0, 1) := by decide +kernel
theorem dnbl_13 : decode jdk_52_method_3_code 13 = .ok (.ldc 20, 2) := by decide +kernel
theorem dnbl_15 : decode jdk_52_method_3_code 15 = .ok (.if_icmp .lt 40, 3) := by decide +kernel
theorem dnbl_18 : decode jdk_52_method_3_code 18 = .ok (.new 21, 3) := by decide +kernel
theorem dnbl_21 : decode jdk_52_method_3_code 21 = .ok (.dup, 1) := by decide +kernel
theorem dnbl_22 : decode jdk_52_method_3_code 22 = .ok (.new 23, 3) := by decide +kernel
theorem dnbl_25 : decode jdk_52_method_3_code 25 = .ok (.dup, 1) := by decide +kernel
theorem dnbl_26 : decode jdk_52_method_3_code 26 = .ok (.invokespecial 25, 3) := by decide +kernel
theorem dnbl_29 : decode jdk_52_method_3_code 29 = .ok (.ldc 26, 2) := by decide +kernel
theorem dnbl_31 : decode jdk_52_method_3_code 31 = .ok (.invokevirtual 28, 3) := by decide +kernel
theorem dnbl_34 : decode jdk_52_method_3_code 34 = .ok (.iload_n 0, 1) := by decide +kernel
theorem dnbl_35 : decode jdk_52_method_3_code 35 = .ok (.invokevirtual 32, 3) := by decide +kernel
theorem dnbl_38 : decode jdk_52_method_3_code 38 = .ok (.ldc 35, 2) := by decide +kernel
theorem dnbl_40 : decode jdk_52_method_3_code 40 = .ok (.invokevirtual 28, 3) := by decide +kernel
theorem dnbl_43 : decode jdk_52_method_3_code 43 = .ok (.ldc 20, 2) := by decide +kernel
theorem dnbl_45 : decode jdk_52_method_3_code 45 = .ok (.invokevirtual 32, 3) := by decide +kernel
theorem dnbl_48 : decode jdk_52_method_3_code 48 = .ok (.invokevirtual 37, 3) := by decide +kernel
theorem dnbl_51 : decode jdk_52_method_3_code 51 = .ok (.invokespecial 41, 3) := by decide +kernel
theorem dnbl_54 : decode jdk_52_method_3_code 54 = .ok (.athrow, 1) := by decide +kernel
theorem dnbl_55 : decode jdk_52_method_3_code 55 = .ok (.iload_n 0, 1) := by decide +kernel
theorem dnbl_56 : decode jdk_52_method_3_code 56 = .ok (.iconst 1, 1) := by decide +kernel
theorem dnbl_57 : decode jdk_52_method_3_code 57 = .ok (.ishl, 1) := by decide +kernel
theorem dnbl_58 : decode jdk_52_method_3_code 58 = .ok (.ireturn, 1) := by decide +kernel
theorem ef_nbl (m : MethodId) (N : Int32) : entryFrame m #[.int N] 1 = mkF m 0 #[.val (.int N)] [] := by first | (simp [entryFrame, mkF, argsToLocals, Value.category]; done) | rfl
set_option maxRecDepth 65536 in
set_option maxHeartbeats 40000000 in
theorem rm_nbl {l : Launch} {Z : State} {a0 : Array Value} {zc : Int32}  (G : Gl Z a0 zc ) (h : Heap) (N : Int32) (n : Nat) (hN : N = Int32.ofNat n) (hn : n ≤ 32) :
    Met l Z consts_1 (⟨"java/lang/StringUTF16", "newBytesLength", "(I)I"⟩ : MethodName) jdk_52_method_3_code 1 (some .int) ({ frames := 0, cells := 0, slots := 0, locals := 0 } : Room) #[.int N] h [] [] (fun v h' => v = some (.int (Int32.ofNat (2 * n))) ∧ h = h') := by
  have G0 := G
  obtain ⟨hw, hEL, SC, hz, SA, SH, SL⟩ := G
  have hw1 : ∀ d ∈ StrChars.Road.words, d.before a0 Z = true := fun d q => hw d (sub1 d q)
  have hwA : ∀ d ∈ Bundle.stringAtoms, d.before a0 Z = true := fun d q => hw d (subA d q)
  have hw2 : ∀ d ∈ wordsS, d.before a0 Z = true := fun d q => hw d (sub2 d q)
  have hwE : ∀ d ∈ StrChars.Road.wordsEq, d.before a0 Z = true := fun d q => hw d (subE d q)
  refine Met.of (plainFor_of_name pn_0) ?_
  intro p e s m below meth c T hnm hret hlk hby hml hs w
  have hZ0 := w.old
  refine Run.cast (ef_nbl m N) ?_
  refine s_iload_n w (hb hby dnbl_0) rfl (pc' := 1) rfl ?_
  refine s_if_ge w (hb hby dnbl_1) (by decide) (pc1 := 4) rfl (pc2 := 12) rfl (fun ct1 => ?_) (fun ct1 => ?_)
  · exact absurd ct1 (by rw [hN]; exact ofNat_lt (by omega))
  · skip
    refine s_iload_n w (hb hby dnbl_12) rfl (pc' := 13) rfl ?_
    refine w_ldcI w (v := 1073741823) (hw _ (List.mem_of_getElem? (i := 69) rfl)) (hb hby dnbl_13) (pc' := 15) rfl ?_
    refine s_icmp_lt w (hb hby dnbl_15) (by decide) (pc1 := 18) rfl (pc2 := 55) rfl (fun ct2 => ?_) (fun ct2 => ?_)
    · exact absurd (by rw [hN, Int32.lt_iff_toInt_lt, Int32.toInt_ofNat_of_lt (by omega)]; have e : (1073741823 : Int32).toInt = 1073741823 := (by decide); omega) ct2
    · skip
      refine s_iload_n w (hb hby dnbl_55) rfl (pc' := 56) rfl ?_
      refine s_iconst w (hb hby dnbl_56) (v := 1) rfl (pc' := 57) rfl ?_
      refine s_ishl w (hb hby dnbl_57) (pc' := 58) rfl ?_
      rw [hN, ofN_shl hn]
      exact w_ireturn w hEL hs hlk hret rfl (Or.inl rfl) (hb hby dnbl_58) (by decide) (by decide) ⟨rfl, rfl⟩
theorem dnbf_0 : decode jdk_52_method_2_code 0 = .ok (.iload_n 0, 1) := by decide +kernel
theorem dnbf_1 : decode jdk_52_method_2_code 1 = .ok (.invokestatic 11, 3) := by decide +kernel
theorem dnbf_4 : decode jdk_52_method_2_code 4 = .ok (.newarray .byte, 2) := by decide +kernel
theorem dnbf_6 : decode jdk_52_method_2_code 6 = .ok (.areturn, 1) := by decide +kernel
theorem ef_nbf (m : MethodId) (N : Int32) : entryFrame m #[.int N] 1 = mkF m 0 #[.val (.int N)] [] := by first | (simp [entryFrame, mkF, argsToLocals, Value.category]; done) | rfl
set_option maxRecDepth 65536 in
set_option maxHeartbeats 40000000 in
theorem rm_nbf {l : Launch} {Z : State} {a0 : Array Value} {zc : Int32}  (G : Gl Z a0 zc ) (h : Heap) (N : Int32) (n : Nat) (hN : N = Int32.ofNat n) (hB : n ≤ 8) :
    MetN l Z consts_1 (⟨"java/lang/StringUTF16", "newBytesFor", "(I)[B"⟩ : MethodName) jdk_52_method_2_code 1 (some (.array .byte)) ({ frames := 1, cells := 1, slots := 16, locals := 12 } : Room) #[.int N] h [] [] (fun v h' N => ∃ t kt, v = some (.ref t) ∧ N = [t] ∧ h.size ≤ t ∧ Arv Z h' t kt .byte (Int32.ofNat (2 * n)) (List.replicate (2 * n) (.int 0)) (.int 0)) := by
  have G0 := G
  obtain ⟨hw, hEL, SC, hz, SA, SH, SL⟩ := G
  have hw1 : ∀ d ∈ StrChars.Road.words, d.before a0 Z = true := fun d q => hw d (sub1 d q)
  have hwA : ∀ d ∈ Bundle.stringAtoms, d.before a0 Z = true := fun d q => hw d (subA d q)
  have hw2 : ∀ d ∈ wordsS, d.before a0 Z = true := fun d q => hw d (sub2 d q)
  have hwE : ∀ d ∈ StrChars.Road.wordsEq, d.before a0 Z = true := fun d q => hw d (subE d q)
  refine MetN.of (plainFor_of_name pn_0) ?_
  intro p e s m below meth c T hnm hret hlk hby hml hs w
  have hZ0 := w.old
  refine Run.cast (ef_nbf m N) ?_
  have hn : n ≤ 32 := by omega
  refine s_iload_n w (hb hby dnbf_0) rfl (pc' := 1) rfl ?_
  refine w_static w hEL (y := (⟨"java/lang/StringUTF16", "newBytesLength", "(I)I"⟩ : MethodName)) (hw _ (List.mem_of_getElem? (i := 66) rfl)) (hw _ (List.mem_of_getElem? (i := 67) rfl)) (hw _ (List.mem_of_getElem? (i := 51) rfl)) (hw _ (List.mem_of_getElem? (i := 68) rfl)) (by decide) (rm_nbl G0 h N n hN hn) all0 all0 (argsL := [.int N]) (rest := []) (lenOf (by decide +kernel : parseMethodDescriptor "(I)I" = some ⟨[.int], (some .int)⟩) rfl) rfl rfl (hb hby dnbf_1) (by rw [hml]; rfl) (W := 0) (Nat.le_of_eq rfl) (by decide) (by decide) (by decide) (by decide) (pc' := 4) rfl fun u1 T h2 w K3 P4 => ?_
  obtain ⟨rfl, rfl⟩ := P4
  show Run p e below _ T (mkF m 4 #[.val (.int N)] [.int (Int32.ofNat (2 * n))])
  refine w_newP w (hw _ (List.mem_of_getElem? (i := 25) rfl)) rfl rfl (hb hby dnbf_4) (ofNat_lt (by omega)) (n := 2 * n) (Nat.le_of_eq (ofNat_nat (by omega))) (by omega) (pc' := 6) rfl (by decide) (by first | omega | (dsimp only; omega)) fun T h5 x6 k7 w E8 q9 r10 V11 => ?_
  have w := w.mono (slots' := 16) (Nat.le_refl _) (by first | omega | (dsimp only; omega))
  exact w_areturnN w hEL hs hlk hret rfl rfl (hb hby dnbf_6) (by decide) (by decide) (N := [x6]) (allP (List.mem_cons_self ..)) ⟨x6, _, rfl, rfl, q9, V11⟩
theorem dtob_0 : decode jdk_52_method_14_code 0 = .ok (.iload_n 2, 1) := by decide +kernel
theorem dtob_1 : decode jdk_52_method_14_code 1 = .ok (.invokestatic 107, 3) := by decide +kernel
theorem dtob_4 : decode jdk_52_method_14_code 4 = .ok (.astore_n 3, 1) := by decide +kernel
theorem dtob_5 : decode jdk_52_method_14_code 5 = .ok (.iconst 0, 1) := by decide +kernel
theorem dtob_6 : decode jdk_52_method_14_code 6 = .ok (.istore 4, 2) := by decide +kernel
theorem dtob_8 : decode jdk_52_method_14_code 8 = .ok (.iload 4, 2) := by decide +kernel
theorem dtob_10 : decode jdk_52_method_14_code 10 = .ok (.iload_n 2, 1) := by decide +kernel
theorem dtob_11 : decode jdk_52_method_14_code 11 = .ok (.if_icmp .ge 21, 3) := by decide +kernel
theorem dtob_14 : decode jdk_52_method_14_code 14 = .ok (.aload_n 3, 1) := by decide +kernel
theorem dtob_15 : decode jdk_52_method_14_code 15 = .ok (.iload 4, 2) := by decide +kernel
theorem dtob_17 : decode jdk_52_method_14_code 17 = .ok (.aload_n 0, 1) := by decide +kernel
theorem dtob_18 : decode jdk_52_method_14_code 18 = .ok (.iload_n 1, 1) := by decide +kernel
theorem dtob_19 : decode jdk_52_method_14_code 19 = .ok (.caload, 1) := by decide +kernel
theorem dtob_20 : decode jdk_52_method_14_code 20 = .ok (.invokestatic 111, 3) := by decide +kernel
theorem dtob_23 : decode jdk_52_method_14_code 23 = .ok (.iinc 1 1, 3) := by decide +kernel
theorem dtob_26 : decode jdk_52_method_14_code 26 = .ok (.iinc 4 1, 3) := by decide +kernel
theorem dtob_29 : decode jdk_52_method_14_code 29 = .ok (.goto (-21), 3) := by decide +kernel
theorem dtob_32 : decode jdk_52_method_14_code 32 = .ok (.aload_n 3, 1) := by decide +kernel
theorem dtob_33 : decode jdk_52_method_14_code 33 = .ok (.areturn, 1) := by decide +kernel
theorem ef_tob (m : MethodId) (b : Addr) (N : Int32) : entryFrame m #[.ref b, .int 0, .int N] 5 = mkF m 0 #[.val (.ref b), .val (.int 0), .val (.int N), .unset, .unset] [] := by first | (simp [entryFrame, mkF, argsToLocals, Value.category]; done) | rfl
set_option maxRecDepth 65536 in
set_option maxHeartbeats 40000000 in
theorem rm_tob {l : Launch} {Z : State} {a0 : Array Value} {zc : Int32}  (G : Gl Z a0 zc ) (h : Heap) (b : Addr) (N : Int32) (kb : ClassId) (cs : List Int32) (hN : N = Int32.ofNat cs.length) (hB : cs.length ≤ 8) (K : Arv Z h b kb .char N (cs.map Value.int) (.int 0)) :
    MetN l Z consts_1 (⟨"java/lang/StringUTF16", "toBytes", "([CII)[B"⟩ : MethodName) jdk_52_method_14_code 5 (some (.array .byte)) ({ frames := 2, cells := 1, slots := 16, locals := 24 } : Room) #[.ref b, .int 0, .int N] h [] [] (fun v h' N => ∃ t kt, v = some (.ref t) ∧ N = [t] ∧ h.size ≤ t ∧ Arv Z h' t kt .byte (Int32.ofNat (2 * cs.length)) (wideBytes cs) (.int 0)) := by
  have G0 := G
  obtain ⟨hw, hEL, SC, hz, SA, SH, SL⟩ := G
  have hw1 : ∀ d ∈ StrChars.Road.words, d.before a0 Z = true := fun d q => hw d (sub1 d q)
  have hwA : ∀ d ∈ Bundle.stringAtoms, d.before a0 Z = true := fun d q => hw d (subA d q)
  have hw2 : ∀ d ∈ wordsS, d.before a0 Z = true := fun d q => hw d (sub2 d q)
  have hwE : ∀ d ∈ StrChars.Road.wordsEq, d.before a0 Z = true := fun d q => hw d (subE d q)
  refine MetN.of (plainFor_of_name pn_0) ?_
  intro p e s m below meth c T hnm hret hlk hby hml hs w
  have hZ0 := w.old
  refine Run.cast (ef_tob m b N) ?_
  have hl32 : cs.length ≤ 32 := by omega
  refine s_iload_n w (hb hby dtob_0) rfl (pc' := 1) rfl ?_
  refine w_staticN w hEL (y := (⟨"java/lang/StringUTF16", "newBytesFor", "(I)[B"⟩ : MethodName)) (hw _ (List.mem_of_getElem? (i := 63) rfl)) (hw _ (List.mem_of_getElem? (i := 64) rfl)) (hw _ (List.mem_of_getElem? (i := 51) rfl)) (hw _ (List.mem_of_getElem? (i := 65) rfl)) (by decide) (rm_nbf G0 h N cs.length hN hB) all0 all0 (argsL := [.int N]) (rest := []) (lenOf (by decide +kernel : parseMethodDescriptor "(I)[B" = some ⟨[.int], (some (.array .byte))⟩) rfl) rfl rfl (hb hby dtob_1) (by rw [hml]; rfl) (W := 0) (Nat.le_of_eq rfl) (by decide) (by decide) (by decide) (by decide) (pc' := 4) rfl fun u1 N5 T h2 w K3 P4 => ?_
  obtain ⟨t6, kt7, rfl, rfl, q8, A9⟩ := P4
  have E10 := Keep.ext0 K3
  show Run p e below _ T (mkF m 4 #[.val (.ref b), .val (.int 0), .val (.int N), .unset, .unset] [.ref t6])
  refine s_astore_n w #[.val (.ref b), .val (.int 0), .val (.int N), .val (.ref t6), .unset] (hb hby dtob_4) rfl rfl (pc' := 5) rfl ?_
  refine s_iconst w (hb hby dtob_5) (v := 0) rfl (pc' := 6) rfl ?_
  refine s_istore w #[.val (.ref b), .val (.int 0), .val (.int N), .val (.ref t6), .val (.int 0)] (hb hby dtob_6) rfl (pc' := 8) rfl ?_
  have hbt : b ≠ t6 := fun z => by obtain ⟨cl, A, -⟩ := K; have := A.lt; rw [z] at this; exact absurd q8 (Nat.not_le.mpr this)
  suffices H : ∀ k j T g, j + k = cs.length → Wk p l e _ s m _ below meth c Z consts_1 _ h [] T g 1 16 [t6] → Ext h g → Arv Z g b kb .char N (cs.map Value.int) (.int 0) → Arv Z g t6 kt7 .byte (Int32.ofNat (2 * cs.length)) (wideBytes (cs.take j) ++ List.replicate (2 * (cs.length - j)) (.int 0)) (.int 0) → Run p e below (QmN Z consts_1 s h [] _ _) T (mkF m 8 #[.val (.ref b), .val (.int (Int32.ofNat j)), .val (.int N), .val (.ref t6), .val (.int (Int32.ofNat j))] []) from H cs.length 0 T h2 (Nat.zero_add _) w E10 (K.ext E10) A9
  intro k
  induction k with
  | zero =>
    intro j T g hj w E K D
    obtain rfl : j = cs.length := hj
    refine s_iload w (hb hby dtob_8) rfl (pc' := 10) rfl ?_
    refine s_iload_n w (hb hby dtob_10) rfl (pc' := 11) rfl ?_
    refine s_icmp_ge w (hb hby dtob_11) (by decide) (pc1 := 14) rfl (pc2 := 32) rfl (fun ct11 => ?_) (fun ct11 => ?_)
    · exact absurd ct11 (by rw [hN]; exact Int32.lt_irrefl)
    · skip
      refine s_aload_n w (hb hby dtob_32) rfl rfl (pc' := 33) rfl ?_
      exact w_areturnN w hEL hs hlk hret rfl rfl (hb hby dtob_33) (by decide) (by decide) (N := [t6]) (allP (List.mem_cons_self ..)) ⟨t6, kt7, rfl, rfl, q8, by simpa using D⟩
  | succ k ih =>
    intro j T g hj w E K D
    have hjn : j < cs.length := by omega
    refine s_iload w (hb hby dtob_8) rfl (pc' := 10) rfl ?_
    refine s_iload_n w (hb hby dtob_10) rfl (pc' := 11) rfl ?_
    refine s_icmp_ge w (hb hby dtob_11) (by decide) (pc1 := 14) rfl (pc2 := 32) rfl (fun ct12 => ?_) (fun ct12 => ?_)
    · skip
      refine s_aload_n w (hb hby dtob_14) rfl rfl (pc' := 15) rfl ?_
      refine s_iload w (hb hby dtob_15) rfl (pc' := 17) rfl ?_
      refine s_aload_n w (hb hby dtob_17) rfl rfl (pc' := 18) rfl ?_
      refine s_iload_n w (hb hby dtob_18) rfl (pc' := 19) rfl ?_
      refine w_ldC w K (i := j) (ofNat_lt (by omega)) (ofNat_nat (by omega)) (by rw [hN, ofNat_nat (by omega)]; exact hjn) (mapI_getD hjn) (hb hby dtob_19) (pc' := 20) rfl ?_
      refine w_static w hEL (y := (⟨"java/lang/StringUTF16", "putChar", "([BII)V"⟩ : MethodName)) (hw _ (List.mem_of_getElem? (i := 70) rfl)) (hw _ (List.mem_of_getElem? (i := 71) rfl)) (hw _ (List.mem_of_getElem? (i := 51) rfl)) (hw _ (List.mem_of_getElem? (i := 72) rfl)) (by decide) (rm_pch G0 g t6 _ _ j cs.length rfl kt7 _ _ rfl (by simp [wide_len]; omega) D hjn hl32) (allS (List.mem_of_getElem? (i := 0) rfl) all0) (allS (Or.inr q8) all0) (argsL := [.ref t6, .int (Int32.ofNat j), .int (cs.getD j 0)]) (rest := []) (lenOf (by decide +kernel : parseMethodDescriptor "([BII)V" = some ⟨[(.array .byte), .int, .int], none⟩) rfl) rfl rfl (hb hby dtob_20) (by rw [hml]; rfl) (W := 0) (Nat.le_of_eq rfl) (by decide) (by decide) (by decide) (by decide) (pc' := 23) rfl fun u13 T h14 w K15 P16 => ?_
      obtain ⟨rfl, D1⟩ := P16
      have E1 := Ext.kp E K15 (allP q8)
      have K1 := K.keep K15 (ninS hbt nin0)
      rw [wide_step cs j hjn] at D1
      show Run p e below _ T (mkF m 23 #[.val (.ref b), .val (.int (Int32.ofNat j)), .val (.int N), .val (.ref t6), .val (.int (Int32.ofNat j))] [])
      refine s_iinc w #[.val (.ref b), .val (.int ((Int32.ofNat j) + 1)), .val (.int N), .val (.ref t6), .val (.int (Int32.ofNat j))] (hb hby dtob_23) (v := 1) rfl rfl rfl (pc' := 26) rfl ?_
      refine s_iinc w #[.val (.ref b), .val (.int ((Int32.ofNat j) + 1)), .val (.int N), .val (.ref t6), .val (.int ((Int32.ofNat j) + 1))] (hb hby dtob_26) (v := 1) rfl rfl rfl (pc' := 29) rfl ?_
      refine s_goto w (hb hby dtob_29) (by decide) (pc' := 8) rfl ?_
      rw [ofNat_succ]
      exact ih (j + 1) _ _ (by omega) w E1 K1 D1
    · exact absurd (by rw [hN]; exact (ofNat_cmp (by omega) (by omega)).mpr hjn) ct12
theorem dcp5_0 : decode jdk_52_method_21_code 0 = .ok (.iconst 0, 1) := by decide +kernel
theorem dcp5_1 : decode jdk_52_method_21_code 1 = .ok (.istore 5, 2) := by decide +kernel
theorem dcp5_3 : decode jdk_52_method_21_code 3 = .ok (.iload 5, 2) := by decide +kernel
theorem dcp5_5 : decode jdk_52_method_21_code 5 = .ok (.iload 4, 2) := by decide +kernel
theorem dcp5_7 : decode jdk_52_method_21_code 7 = .ok (.if_icmp .ge 37, 3) := by decide +kernel
theorem dcp5_10 : decode jdk_52_method_21_code 10 = .ok (.aload_n 0, 1) := by decide +kernel
theorem dcp5_11 : decode jdk_52_method_21_code 11 = .ok (.iload_n 1, 1) := by decide +kernel
theorem dcp5_12 : decode jdk_52_method_21_code 12 = .ok (.caload, 1) := by decide +kernel
theorem dcp5_13 : decode jdk_52_method_21_code 13 = .ok (.istore 6, 2) := by decide +kernel
theorem dcp5_15 : decode jdk_52_method_21_code 15 = .ok (.iload 6, 2) := by decide +kernel
theorem dcp5_17 : decode jdk_52_method_21_code 17 = .ok (.sipush 255, 3) := by decide +kernel
theorem dcp5_20 : decode jdk_52_method_21_code 20 = .ok (.if_icmp .le 6, 3) := by decide +kernel
theorem dcp5_23 : decode jdk_52_method_21_code 23 = .ok (.iload 5, 2) := by decide +kernel
theorem dcp5_25 : decode jdk_52_method_21_code 25 = .ok (.ireturn, 1) := by decide +kernel
theorem dcp5_26 : decode jdk_52_method_21_code 26 = .ok (.aload_n 2, 1) := by decide +kernel
theorem dcp5_27 : decode jdk_52_method_21_code 27 = .ok (.iload_n 3, 1) := by decide +kernel
theorem dcp5_28 : decode jdk_52_method_21_code 28 = .ok (.iload 6, 2) := by decide +kernel
theorem dcp5_30 : decode jdk_52_method_21_code 30 = .ok (.i2b, 1) := by decide +kernel
theorem dcp5_31 : decode jdk_52_method_21_code 31 = .ok (.bastore, 1) := by decide +kernel
theorem dcp5_32 : decode jdk_52_method_21_code 32 = .ok (.iinc 1 1, 3) := by decide +kernel
theorem dcp5_35 : decode jdk_52_method_21_code 35 = .ok (.iinc 3 1, 3) := by decide +kernel
theorem dcp5_38 : decode jdk_52_method_21_code 38 = .ok (.iinc 5 1, 3) := by decide +kernel
theorem dcp5_41 : decode jdk_52_method_21_code 41 = .ok (.goto (-38), 3) := by decide +kernel
theorem dcp5_44 : decode jdk_52_method_21_code 44 = .ok (.iload 4, 2) := by decide +kernel
theorem dcp5_46 : decode jdk_52_method_21_code 46 = .ok (.ireturn, 1) := by decide +kernel
theorem ef_cp5 (m : MethodId) (b : Addr) (d : Addr) (N : Int32) : entryFrame m #[.ref b, .int 0, .ref d, .int 0, .int N] 7 = mkF m 0 #[.val (.ref b), .val (.int 0), .val (.ref d), .val (.int 0), .val (.int N), .unset, .unset] [] := by first | (simp [entryFrame, mkF, argsToLocals, Value.category]; done) | rfl
set_option maxRecDepth 65536 in
set_option maxHeartbeats 40000000 in
theorem rm_cp5 {l : Launch} {Z : State} {a0 : Array Value} {zc : Int32}  (G : Gl Z a0 zc ) (h : Heap) (b : Addr) (d : Addr) (N : Int32) (kb kd : ClassId) (cs : List Int32) (hN : N = Int32.ofNat cs.length) (hB : cs.length ≤ 32) (K : Arv Z h b kb .char N (cs.map Value.int) (.int 0)) (D : Arv Z h d kd .byte N (List.replicate cs.length (.int 0)) (.int 0)) (hne : b ≠ d) :
    Met l Z consts_1 (⟨"java/lang/StringUTF16", "compress", "([CI[BII)I"⟩ : MethodName) jdk_52_method_21_code 7 (some .int) ({ frames := 0, cells := 0, slots := 0, locals := 0 } : Room) #[.ref b, .int 0, .ref d, .int 0, .int N] h [d] [d] (fun v h' => ∃ r, v = some (.int (Int32.ofNat r)) ∧ ((r = cs.length ∧ (∀ c ∈ cs, ¬ (255 : Int32) < c) ∧ Arv Z h' d kd .byte N (cs.map fun c => Value.int (lo8 c)) (.int 0)) ∨ (r < cs.length ∧ (255 : Int32) < cs.getD r 0))) := by
  have G0 := G
  obtain ⟨hw, hEL, SC, hz, SA, SH, SL⟩ := G
  have hw1 : ∀ d ∈ StrChars.Road.words, d.before a0 Z = true := fun d q => hw d (sub1 d q)
  have hwA : ∀ d ∈ Bundle.stringAtoms, d.before a0 Z = true := fun d q => hw d (subA d q)
  have hw2 : ∀ d ∈ wordsS, d.before a0 Z = true := fun d q => hw d (sub2 d q)
  have hwE : ∀ d ∈ StrChars.Road.wordsEq, d.before a0 Z = true := fun d q => hw d (subE d q)
  refine Met.of (plainFor_of_name pn_0) ?_
  intro p e s m below meth c T hnm hret hlk hby hml hs w
  have hZ0 := w.old
  refine Run.cast (ef_cp5 m b d N) ?_
  refine s_iconst w (hb hby dcp5_0) (v := 0) rfl (pc' := 1) rfl ?_
  refine s_istore w #[.val (.ref b), .val (.int 0), .val (.ref d), .val (.int 0), .val (.int N), .val (.int 0), .unset] (hb hby dcp5_1) rfl (pc' := 3) rfl ?_
  suffices H : ∀ k j (sl : Slot) T g, j + k = cs.length → (sl = .unset ∨ ∃ z, sl = .val (.int z)) → Wk p l e _ s m _ below meth c Z consts_1 _ h [d] T g 0 0 [d] → Arv Z g b kb .char N (cs.map Value.int) (.int 0) → Arv Z g d kd .byte N (((cs.take j).map fun c => Value.int (lo8 c)) ++ List.replicate (cs.length - j) (.int 0)) (.int 0) → (∀ c ∈ cs.take j, ¬ (255 : Int32) < c) → Run p e below (Qm Z consts_1 s h [d] _ _) T (mkF m 3 #[.val (.ref b), .val (.int (Int32.ofNat j)), .val (.ref d), .val (.int (Int32.ofNat j)), .val (.int N), .val (.int (Int32.ofNat j)), sl] []) from H cs.length 0 .unset T h (Nat.zero_add _) (Or.inl rfl) w K D (fun _ q => nomatch q)
  intro k
  induction k with
  | zero =>
    intro j sl T g hj hsl w K D hlt
    obtain rfl : j = cs.length := hj
    refine s_iload w (hb hby dcp5_3) rfl (pc' := 5) rfl ?_
    refine s_iload w (hb hby dcp5_5) rfl (pc' := 7) rfl ?_
    refine s_icmp_ge w (hb hby dcp5_7) (by decide) (pc1 := 10) rfl (pc2 := 44) rfl (fun ct1 => ?_) (fun ct1 => ?_)
    · exact absurd ct1 (by rw [hN]; exact Int32.lt_irrefl)
    · skip
      refine s_iload w (hb hby dcp5_44) rfl (pc' := 46) rfl ?_
      exact w_ireturn w hEL hs hlk hret rfl (Or.inl rfl) (hb hby dcp5_46) (by decide) (by decide) ⟨cs.length, by rw [hN], Or.inl ⟨rfl, fun c q => hlt c (by simpa using q), by simpa using D⟩⟩
  | succ k ih =>
    intro j sl T g hj hsl w K D hlt
    have hjn : j < cs.length := by omega
    refine s_iload w (hb hby dcp5_3) rfl (pc' := 5) rfl ?_
    refine s_iload w (hb hby dcp5_5) rfl (pc' := 7) rfl ?_
    refine s_icmp_ge w (hb hby dcp5_7) (by decide) (pc1 := 10) rfl (pc2 := 44) rfl (fun ct2 => ?_) (fun ct2 => ?_)
    · skip
      refine s_aload_n w (hb hby dcp5_10) rfl rfl (pc' := 11) rfl ?_
      refine s_iload_n w (hb hby dcp5_11) rfl (pc' := 12) rfl ?_
      refine w_ldC w K (i := j) (ofNat_lt (by omega)) (ofNat_nat (by omega)) (by rw [hN, ofNat_nat (by omega)]; exact hjn) (mapI_getD hjn) (hb hby dcp5_12) (pc' := 13) rfl ?_
      refine s_istore w #[.val (.ref b), .val (.int (Int32.ofNat j)), .val (.ref d), .val (.int (Int32.ofNat j)), .val (.int N), .val (.int (Int32.ofNat j)), .val (.int (cs.getD j 0))] (hb hby dcp5_13) (by rcases hsl with rfl | ⟨z, rfl⟩ <;> rfl) (pc' := 15) rfl ?_
      refine s_iload w (hb hby dcp5_15) rfl (pc' := 17) rfl ?_
      refine s_sipush w (hb hby dcp5_17) (v := 255) rfl (pc' := 20) rfl ?_
      refine s_icmp_le w (hb hby dcp5_20) (by decide) (pc1 := 23) rfl (pc2 := 26) rfl (fun ct3 => ?_) (fun ct3 => ?_)
      · skip
        refine s_iload w (hb hby dcp5_23) rfl (pc' := 25) rfl ?_
        exact w_ireturn w hEL hs hlk hret rfl (Or.inl rfl) (hb hby dcp5_25) (by decide) (by decide) ⟨j, rfl, Or.inr ⟨hjn, ct3⟩⟩
      · skip
        refine s_aload_n w (hb hby dcp5_26) rfl rfl (pc' := 27) rfl ?_
        refine s_iload_n w (hb hby dcp5_27) rfl (pc' := 28) rfl ?_
        refine s_iload w (hb hby dcp5_28) rfl (pc' := 30) rfl ?_
        refine s_i2b w (hb hby dcp5_30) (pc' := 31) rfl ?_
        refine w_stB w D (i := j) (ofNat_lt (by omega)) (ofNat_nat (by omega)) (by rw [hN, ofNat_nat (by omega)]; exact hjn) (by simp; omega) (nar_byte _) (hb hby dcp5_31) (Or.inl (List.mem_singleton.mpr rfl)) (List.mem_singleton.mpr rfl) (pc' := 32) rfl fun T g1 w W1 D1 => ?_
        refine s_iinc w #[.val (.ref b), .val (.int ((Int32.ofNat j) + 1)), .val (.ref d), .val (.int (Int32.ofNat j)), .val (.int N), .val (.int (Int32.ofNat j)), .val (.int (cs.getD j 0))] (hb hby dcp5_32) (v := 1) rfl rfl rfl (pc' := 35) rfl ?_
        refine s_iinc w #[.val (.ref b), .val (.int ((Int32.ofNat j) + 1)), .val (.ref d), .val (.int ((Int32.ofNat j) + 1)), .val (.int N), .val (.int (Int32.ofNat j)), .val (.int (cs.getD j 0))] (hb hby dcp5_35) (v := 1) rfl rfl rfl (pc' := 38) rfl ?_
        refine s_iinc w #[.val (.ref b), .val (.int ((Int32.ofNat j) + 1)), .val (.ref d), .val (.int ((Int32.ofNat j) + 1)), .val (.int N), .val (.int ((Int32.ofNat j) + 1)), .val (.int (cs.getD j 0))] (hb hby dcp5_38) (v := 1) rfl rfl rfl (pc' := 41) rfl ?_
        refine s_goto w (hb hby dcp5_41) (by decide) (pc' := 3) rfl ?_
        rw [ofNat_succ]
        exact ih (j + 1) _ _ _ (by omega) (Or.inr ⟨_, rfl⟩) w (K.other W1 hne) (by rw [← fill_step (f := fun c => Value.int (lo8 c)) cs j hjn]; exact D1) (fun c q => (take_mem hjn q).elim (hlt c) (fun z => by rw [z]; exact ct3))
    · exact absurd (by rw [hN]; exact (ofNat_cmp (by omega) (by omega)).mpr hjn) ct2
theorem dcp3_0 : decode jdk_52_method_16_code 0 = .ok (.iload_n 2, 1) := by decide +kernel
theorem dcp3_1 : decode jdk_52_method_16_code 1 = .ok (.newarray .byte, 2) := by decide +kernel
theorem dcp3_3 : decode jdk_52_method_16_code 3 = .ok (.astore_n 3, 1) := by decide +kernel
theorem dcp3_4 : decode jdk_52_method_16_code 4 = .ok (.aload_n 0, 1) := by decide +kernel
theorem dcp3_5 : decode jdk_52_method_16_code 5 = .ok (.iload_n 1, 1) := by decide +kernel
theorem dcp3_6 : decode jdk_52_method_16_code 6 = .ok (.aload_n 3, 1) := by decide +kernel
theorem dcp3_7 : decode jdk_52_method_16_code 7 = .ok (.iconst 0, 1) := by decide +kernel
theorem dcp3_8 : decode jdk_52_method_16_code 8 = .ok (.iload_n 2, 1) := by decide +kernel
theorem dcp3_9 : decode jdk_52_method_16_code 9 = .ok (.invokestatic 115, 3) := by decide +kernel
theorem dcp3_12 : decode jdk_52_method_16_code 12 = .ok (.istore 4, 2) := by decide +kernel
theorem dcp3_14 : decode jdk_52_method_16_code 14 = .ok (.iload 4, 2) := by decide +kernel
theorem dcp3_16 : decode jdk_52_method_16_code 16 = .ok (.iload_n 2, 1) := by decide +kernel
theorem dcp3_17 : decode jdk_52_method_16_code 17 = .ok (.if_icmp .eq 40, 3) := by decide +kernel
theorem dcp3_20 : decode jdk_52_method_16_code 20 = .ok (.aload_n 0, 1) := by decide +kernel
theorem dcp3_21 : decode jdk_52_method_16_code 21 = .ok (.iload_n 1, 1) := by decide +kernel
theorem dcp3_22 : decode jdk_52_method_16_code 22 = .ok (.iload_n 2, 1) := by decide +kernel
theorem dcp3_23 : decode jdk_52_method_16_code 23 = .ok (.invokestatic 119, 3) := by decide +kernel
theorem dcp3_26 : decode jdk_52_method_16_code 26 = .ok (.astore 5, 2) := by decide +kernel
theorem dcp3_28 : decode jdk_52_method_16_code 28 = .ok (.aload 5, 2) := by decide +kernel
theorem dcp3_30 : decode jdk_52_method_16_code 30 = .ok (.iload 4, 2) := by decide +kernel
theorem dcp3_32 : decode jdk_52_method_16_code 32 = .ok (.invokestatic 71, 3) := by decide +kernel
theorem dcp3_35 : decode jdk_52_method_16_code 35 = .ok (.sipush 255, 3) := by decide +kernel
theorem dcp3_38 : decode jdk_52_method_16_code 38 = .ok (.if_icmp .gt 16, 3) := by decide +kernel
theorem dcp3_41 : decode jdk_52_method_16_code 41 = .ok (.aload 5, 2) := by decide +kernel
theorem dcp3_43 : decode jdk_52_method_16_code 43 = .ok (.iconst 0, 1) := by decide +kernel
theorem dcp3_44 : decode jdk_52_method_16_code 44 = .ok (.aload_n 3, 1) := by decide +kernel
theorem dcp3_45 : decode jdk_52_method_16_code 45 = .ok (.iconst 0, 1) := by decide +kernel
theorem dcp3_46 : decode jdk_52_method_16_code 46 = .ok (.iload_n 2, 1) := by decide +kernel
theorem dcp3_47 : decode jdk_52_method_16_code 47 = .ok (.invokestatic 123, 3) := by decide +kernel
theorem dcp3_50 : decode jdk_52_method_16_code 50 = .ok (.iload_n 2, 1) := by decide +kernel
theorem dcp3_51 : decode jdk_52_method_16_code 51 = .ok (.if_icmp .eq 6, 3) := by decide +kernel
theorem dcp3_54 : decode jdk_52_method_16_code 54 = .ok (.aload 5, 2) := by decide +kernel
theorem dcp3_56 : decode jdk_52_method_16_code 56 = .ok (.areturn, 1) := by decide +kernel
theorem dcp3_57 : decode jdk_52_method_16_code 57 = .ok (.aload_n 3, 1) := by decide +kernel
theorem dcp3_58 : decode jdk_52_method_16_code 58 = .ok (.areturn, 1) := by decide +kernel
theorem ef_cp3 (m : MethodId) (b : Addr) (N : Int32) : entryFrame m #[.ref b, .int 0, .int N] 6 = mkF m 0 #[.val (.ref b), .val (.int 0), .val (.int N), .unset, .unset, .unset] [] := by first | (simp [entryFrame, mkF, argsToLocals, Value.category]; done) | rfl
set_option maxRecDepth 65536 in
set_option maxHeartbeats 40000000 in
theorem rm_cp3 {l : Launch} {Z : State} {a0 : Array Value} {zc : Int32}  (G : Gl Z a0 zc ) (h : Heap) (b : Addr) (N : Int32) (kb : ClassId) (cs : List Int32) (hN : N = Int32.ofNat cs.length) (hB : cs.length ≤ 8) (hcs : ∀ c ∈ cs, Chr c) (K : Arv Z h b kb .char N (cs.map Value.int) (.int 0)) :
    Met l Z consts_1 (⟨"java/lang/StringUTF16", "compress", "([CII)[B"⟩ : MethodName) jdk_52_method_16_code 6 (some (.array .byte)) ({ frames := 3, cells := 2, slots := 24, locals := 40 } : Room) #[.ref b, .int 0, .int N] h [] [] (fun v h' => ∃ t kt cd N2 vs, v = some (.ref t) ∧ h.size ≤ t ∧ Arv Z h' t kt .byte N2 vs (.int 0) ∧ CodA cs cd N2 vs) := by
  have G0 := G
  obtain ⟨hw, hEL, SC, hz, SA, SH, SL⟩ := G
  have hw1 : ∀ d ∈ StrChars.Road.words, d.before a0 Z = true := fun d q => hw d (sub1 d q)
  have hwA : ∀ d ∈ Bundle.stringAtoms, d.before a0 Z = true := fun d q => hw d (subA d q)
  have hw2 : ∀ d ∈ wordsS, d.before a0 Z = true := fun d q => hw d (sub2 d q)
  have hwE : ∀ d ∈ StrChars.Road.wordsEq, d.before a0 Z = true := fun d q => hw d (subE d q)
  refine Met.of (plainFor_of_name pn_0) ?_
  intro p e s m below meth c T hnm hret hlk hby hml hs w
  have hZ0 := w.old
  refine Run.cast (ef_cp3 m b N) ?_
  have hl32 : cs.length ≤ 32 := by omega
  refine s_iload_n w (hb hby dcp3_0) rfl (pc' := 1) rfl ?_
  refine w_newP w (hw _ (List.mem_of_getElem? (i := 25) rfl)) rfl rfl (hb hby dcp3_1) (by rw [hN]; exact ofNat_lt (by omega)) (n := cs.length) (by rw [hN]; exact Nat.le_of_eq (ofNat_nat (by omega))) (by omega) (pc' := 3) rfl (by decide) (by first | omega | (dsimp only; omega)) fun T h1 x2 k3 w E4 q5 r6 V7 => ?_
  have w := w.mono (slots' := 8) (Nat.le_refl _) (by first | omega | (dsimp only; omega))
  refine s_astore_n w #[.val (.ref b), .val (.int 0), .val (.int N), .val (.ref x2), .unset, .unset] (hb hby dcp3_3) rfl rfl (pc' := 4) rfl ?_
  refine s_aload_n w (hb hby dcp3_4) rfl rfl (pc' := 5) rfl ?_
  refine s_iload_n w (hb hby dcp3_5) rfl (pc' := 6) rfl ?_
  refine s_aload_n w (hb hby dcp3_6) rfl rfl (pc' := 7) rfl ?_
  refine s_iconst w (hb hby dcp3_7) (v := 0) rfl (pc' := 8) rfl ?_
  refine s_iload_n w (hb hby dcp3_8) rfl (pc' := 9) rfl ?_
  have hne : b ≠ x2 := fun z => by obtain ⟨cl, A, -⟩ := K; have := A.lt; rw [z] at this; exact absurd q5 (Nat.not_le.mpr this)
  refine w_static w hEL (y := (⟨"java/lang/StringUTF16", "compress", "([CI[BII)I"⟩ : MethodName)) (hw _ (List.mem_of_getElem? (i := 53) rfl)) (hw _ (List.mem_of_getElem? (i := 54) rfl)) (hw _ (List.mem_of_getElem? (i := 51) rfl)) (hw _ (List.mem_of_getElem? (i := 55) rfl)) (by decide) (rm_cp5 G0 h1 b x2 N kb k3 cs hN hl32 (K.ext E4) V7 hne) (allS (List.mem_of_getElem? (i := 0) rfl) all0) (allS (Or.inr r6) all0) (argsL := [.ref b, .int 0, .ref x2, .int 0, .int N]) (rest := []) (lenOf (by decide +kernel : parseMethodDescriptor "([CI[BII)I" = some ⟨[(.array .char), .int, (.array .byte), .int, .int], (some .int)⟩) rfl) rfl rfl (hb hby dcp3_9) (by rw [hml]; rfl) (W := 0) (Nat.le_of_eq rfl) (by decide) (by decide) (by decide) (by decide) (pc' := 12) rfl fun u8 T h9 w K10 P11 => ?_
  obtain ⟨r0, rfl, hr⟩ := P11
  have Kb1 := (K.ext E4).keep K10 (ninS hne nin0)
  have E12 := Ext.kp E4 K10 (allS q5 all0)
  show Run p e below _ T (mkF m 12 #[.val (.ref b), .val (.int 0), .val (.int N), .val (.ref x2), .unset, .unset] [.int (Int32.ofNat r0)])
  refine s_istore w #[.val (.ref b), .val (.int 0), .val (.int N), .val (.ref x2), .val (.int (Int32.ofNat r0)), .unset] (hb hby dcp3_12) rfl (pc' := 14) rfl ?_
  refine s_iload w (hb hby dcp3_14) rfl (pc' := 16) rfl ?_
  refine s_iload_n w (hb hby dcp3_16) rfl (pc' := 17) rfl ?_
  refine s_icmp_eq w (hb hby dcp3_17) (by decide) (pc1 := 20) rfl (pc2 := 57) rfl (fun ct13 => ?_) (fun ct13 => ?_)
  · skip
    refine s_aload_n w (hb hby dcp3_20) rfl rfl (pc' := 21) rfl ?_
    refine s_iload_n w (hb hby dcp3_21) rfl (pc' := 22) rfl ?_
    refine s_iload_n w (hb hby dcp3_22) rfl (pc' := 23) rfl ?_
    refine w_staticN w hEL (y := (⟨"java/lang/StringUTF16", "toBytes", "([CII)[B"⟩ : MethodName)) (hw _ (List.mem_of_getElem? (i := 60) rfl)) (hw _ (List.mem_of_getElem? (i := 61) rfl)) (hw _ (List.mem_of_getElem? (i := 51) rfl)) (hw _ (List.mem_of_getElem? (i := 62) rfl)) (by decide) (rm_tob G0 h9 b N kb cs hN hB Kb1) all0 all0 (argsL := [.ref b, .int 0, .int N]) (rest := []) (lenOf (by decide +kernel : parseMethodDescriptor "([CII)[B" = some ⟨[(.array .char), .int, .int], (some (.array .byte))⟩) rfl) rfl rfl (hb hby dcp3_23) (by rw [hml]; rfl) (W := 0) (Nat.le_of_eq rfl) (by decide) (by decide) (by decide) (by decide) (pc' := 26) rfl fun u14 N18 T h15 w K16 P17 => ?_
    obtain ⟨t19, kt20, rfl, rfl, q21, A22⟩ := P17
    have E23 := Keep.ext0 K16
    show Run p e below _ T (mkF m 26 #[.val (.ref b), .val (.int 0), .val (.int N), .val (.ref x2), .val (.int (Int32.ofNat r0)), .unset] [.ref t19])
    refine s_astore w #[.val (.ref b), .val (.int 0), .val (.int N), .val (.ref x2), .val (.int (Int32.ofNat r0)), .val (.ref t19)] (hb hby dcp3_26) rfl rfl (pc' := 28) rfl ?_
    refine s_aload w (hb hby dcp3_28) rfl rfl (pc' := 30) rfl ?_
    refine s_iload w (hb hby dcp3_30) rfl (pc' := 32) rfl ?_
    have hr2 := hr.elim (fun z => absurd (by rw [hN, z.1]) ct13) id
    refine w_static w hEL (y := (⟨"java/lang/StringUTF16", "getChar", "([BI)C"⟩ : MethodName)) (hw _ (List.mem_of_getElem? (i := 76) rfl)) (hw _ (List.mem_of_getElem? (i := 77) rfl)) (hw _ (List.mem_of_getElem? (i := 51) rfl)) (hw _ (List.mem_of_getElem? (i := 78) rfl)) (by decide) (rm_gch G0 h15 t19 _ r0 rfl kt20 cs _ rfl A22 hr2.1 hl32 hcs) all0 all0 (argsL := [.ref t19, .int (Int32.ofNat r0)]) (rest := []) (lenOf (by decide +kernel : parseMethodDescriptor "([BI)C" = some ⟨[(.array .byte), .int], (some .char)⟩) rfl) rfl rfl (hb hby dcp3_32) (by rw [hml]; rfl) (W := 0) (Nat.le_of_eq rfl) (by decide) (by decide) (by decide) (by decide) (pc' := 35) rfl fun u24 T h25 w K26 P27 => ?_
    obtain ⟨rfl, rfl⟩ := P27
    show Run p e below _ T (mkF m 35 #[.val (.ref b), .val (.int 0), .val (.int N), .val (.ref x2), .val (.int (Int32.ofNat r0)), .val (.ref t19)] [.int (cs.getD r0 0)])
    refine s_sipush w (hb hby dcp3_35) (v := 255) rfl (pc' := 38) rfl ?_
    refine s_icmp_gt w (hb hby dcp3_38) (by decide) (pc1 := 41) rfl (pc2 := 54) rfl (fun ct28 => ?_) (fun ct28 => ?_)
    · exact absurd hr2.2 ct28
    · skip
      refine s_aload w (hb hby dcp3_54) rfl rfl (pc' := 56) rfl ?_
      exact w_areturn w hEL hs hlk hret rfl rfl (hb hby dcp3_56) (by decide) (by decide) ⟨t19, kt20, 1, _, _, rfl, Nat.le_trans E12.1 q21, A22, Or.inr ⟨rfl, rfl, rfl, _, getD_memC hr2.1, hr2.2⟩⟩
  · skip
    refine s_aload_n w (hb hby dcp3_57) rfl rfl (pc' := 58) rfl ?_
    have hr1 := hr.elim id (fun z => absurd (ofN_inj (by omega) (by omega) (ct13.trans hN)) (Nat.ne_of_lt z.1))
    exact w_areturn w hEL hs hlk hret rfl rfl (hb hby dcp3_58) (by decide) (by decide) ⟨x2, _, 0, _, _, rfl, q5, hr1.2.2, Or.inl ⟨rfl, hN, rfl, hr1.2.1⟩⟩
theorem dcfl_0 : decode jdk_52_method_15_code 0 = .ok (.iload_n 1, 1) := by decide +kernel
theorem dcfl_1 : decode jdk_52_method_15_code 1 = .ok (.aload_n 0, 1) := by decide +kernel
theorem dcfl_2 : decode jdk_52_method_15_code 2 = .ok (.arraylength, 1) := by decide +kernel
theorem dcfl_3 : decode jdk_52_method_15_code 3 = .ok (.isub, 1) := by decide +kernel
theorem dcfl_4 : decode jdk_52_method_15_code 4 = .ok (.bipush 31, 2) := by decide +kernel
theorem dcfl_6 : decode jdk_52_method_15_code 6 = .ok (.iushr, 1) := by decide +kernel
theorem dcfl_7 : decode jdk_52_method_15_code 7 = .ok (.i2b, 1) := by decide +kernel
theorem dcfl_8 : decode jdk_52_method_15_code 8 = .ok (.ireturn, 1) := by decide +kernel
theorem ef_cfl (m : MethodId) (t : Addr) (N : Int32) : entryFrame m #[.ref t, .int N] 2 = mkF m 0 #[.val (.ref t), .val (.int N)] [] := by first | (simp [entryFrame, mkF, argsToLocals, Value.category]; done) | rfl
set_option maxRecDepth 65536 in
set_option maxHeartbeats 40000000 in
theorem rm_cfl {l : Launch} {Z : State} {a0 : Array Value} {zc : Int32}  (G : Gl Z a0 zc ) (h : Heap) (t : Addr) (N : Int32) (kt : ClassId) (cs : List Int32) (cd N2 : Int32) (vs : List Value) (A : Arv Z h t kt .byte N2 vs (.int 0)) (C : CodA cs cd N2 vs) (hN : N = Int32.ofNat cs.length) (h0 : 0 < cs.length) (hl : cs.length ≤ 32) :
    Met l Z consts_1 (⟨"java/lang/StringUTF16", "coderFromArrayLen", "([BI)B"⟩ : MethodName) jdk_52_method_15_code 2 (some .byte) ({ frames := 0, cells := 0, slots := 0, locals := 0 } : Room) #[.ref t, .int N] h [] [] (fun v h' => v = some (.int cd) ∧ h = h') := by
  have G0 := G
  obtain ⟨hw, hEL, SC, hz, SA, SH, SL⟩ := G
  have hw1 : ∀ d ∈ StrChars.Road.words, d.before a0 Z = true := fun d q => hw d (sub1 d q)
  have hwA : ∀ d ∈ Bundle.stringAtoms, d.before a0 Z = true := fun d q => hw d (subA d q)
  have hw2 : ∀ d ∈ wordsS, d.before a0 Z = true := fun d q => hw d (sub2 d q)
  have hwE : ∀ d ∈ StrChars.Road.wordsEq, d.before a0 Z = true := fun d q => hw d (subE d q)
  refine Met.of (plainFor_of_name pn_0) ?_
  intro p e s m below meth c T hnm hret hlk hby hml hs w
  have hZ0 := w.old
  refine Run.cast (ef_cfl m t N) ?_
  refine s_iload_n w (hb hby dcfl_0) rfl (pc' := 1) rfl ?_
  refine s_aload_n w (hb hby dcfl_1) rfl rfl (pc' := 2) rfl ?_
  refine w_len w A (hb hby dcfl_2) (pc' := 3) rfl ?_
  refine s_isub w (hb hby dcfl_3) (pc' := 4) rfl ?_
  refine s_bipush w (hb hby dcfl_4) (v := 31) rfl (pc' := 6) rfl ?_
  refine s_iushr w (hb hby dcfl_6) (pc' := 7) rfl ?_
  refine s_i2b w (hb hby dcfl_7) (pc' := 8) rfl ?_
  rw [coda_coder C hN h0 hl]
  exact w_ireturn w hEL hs hlk hret (coda_bit C).1 (Or.inr (Or.inr (Or.inl rfl))) (hb hby dcfl_8) (by decide) (by decide) ⟨rfl, rfl⟩
theorem din4_0 : decode jdk_42_method_149_code 0 = .ok (.aload_n 0, 1) := by decide +kernel
theorem din4_1 : decode jdk_42_method_149_code 1 = .ok (.invokespecial 1, 3) := by decide +kernel
theorem din4_4 : decode jdk_42_method_149_code 4 = .ok (.iload_n 3, 1) := by decide +kernel
theorem din4_5 : decode jdk_42_method_149_code 5 = .ok (.ifCond .ne 22, 3) := by decide +kernel
theorem din4_8 : decode jdk_42_method_149_code 8 = .ok (.aload_n 0, 1) := by decide +kernel
theorem din4_9 : decode jdk_42_method_149_code 9 = .ok (.ldc 7, 2) := by decide +kernel
theorem din4_11 : decode jdk_42_method_149_code 11 = .ok (.getfield 9, 3) := by decide +kernel
theorem din4_14 : decode jdk_42_method_149_code 14 = .ok (.putfield 9, 3) := by decide +kernel
theorem din4_17 : decode jdk_42_method_149_code 17 = .ok (.aload_n 0, 1) := by decide +kernel
theorem din4_18 : decode jdk_42_method_149_code 18 = .ok (.ldc 7, 2) := by decide +kernel
theorem din4_20 : decode jdk_42_method_149_code 20 = .ok (.getfield 15, 3) := by decide +kernel
theorem din4_23 : decode jdk_42_method_149_code 23 = .ok (.putfield 15, 3) := by decide +kernel
theorem din4_26 : decode jdk_42_method_149_code 26 = .ok (.return_, 1) := by decide +kernel
theorem din4_27 : decode jdk_42_method_149_code 27 = .ok (.getstatic 38, 3) := by decide +kernel
theorem din4_30 : decode jdk_42_method_149_code 30 = .ok (.ifCond .eq 28, 3) := by decide +kernel
theorem din4_33 : decode jdk_42_method_149_code 33 = .ok (.aload_n 1, 1) := by decide +kernel
theorem din4_34 : decode jdk_42_method_149_code 34 = .ok (.iload_n 2, 1) := by decide +kernel
theorem din4_35 : decode jdk_42_method_149_code 35 = .ok (.iload_n 3, 1) := by decide +kernel
theorem din4_36 : decode jdk_42_method_149_code 36 = .ok (.invokestatic 177, 3) := by decide +kernel
theorem din4_39 : decode jdk_42_method_149_code 39 = .ok (.astore 5, 2) := by decide +kernel
theorem din4_41 : decode jdk_42_method_149_code 41 = .ok (.aload_n 0, 1) := by decide +kernel
theorem din4_42 : decode jdk_42_method_149_code 42 = .ok (.aload 5, 2) := by decide +kernel
theorem din4_44 : decode jdk_42_method_149_code 44 = .ok (.iload_n 3, 1) := by decide +kernel
theorem din4_45 : decode jdk_42_method_149_code 45 = .ok (.invokestatic 47, 3) := by decide +kernel
theorem din4_48 : decode jdk_42_method_149_code 48 = .ok (.putfield 15, 3) := by decide +kernel
theorem din4_51 : decode jdk_42_method_149_code 51 = .ok (.aload_n 0, 1) := by decide +kernel
theorem din4_52 : decode jdk_42_method_149_code 52 = .ok (.aload 5, 2) := by decide +kernel
theorem din4_54 : decode jdk_42_method_149_code 54 = .ok (.putfield 9, 3) := by decide +kernel
theorem din4_57 : decode jdk_42_method_149_code 57 = .ok (.return_, 1) := by decide +kernel
theorem din4_58 : decode jdk_42_method_149_code 58 = .ok (.aload_n 0, 1) := by decide +kernel
theorem din4_59 : decode jdk_42_method_149_code 59 = .ok (.iconst 1, 1) := by decide +kernel
theorem din4_60 : decode jdk_42_method_149_code 60 = .ok (.putfield 15, 3) := by decide +kernel
theorem din4_63 : decode jdk_42_method_149_code 63 = .ok (.aload_n 0, 1) := by decide +kernel
theorem din4_64 : decode jdk_42_method_149_code 64 = .ok (.aload_n 1, 1) := by decide +kernel
theorem din4_65 : decode jdk_42_method_149_code 65 = .ok (.iload_n 2, 1) := by decide +kernel
theorem din4_66 : decode jdk_42_method_149_code 66 = .ok (.iload_n 3, 1) := by decide +kernel
theorem din4_67 : decode jdk_42_method_149_code 67 = .ok (.invokestatic 180, 3) := by decide +kernel
theorem din4_70 : decode jdk_42_method_149_code 70 = .ok (.putfield 9, 3) := by decide +kernel
theorem din4_73 : decode jdk_42_method_149_code 73 = .ok (.return_, 1) := by decide +kernel
theorem pn_1 : plainName "java/lang/String" = true := by first | (simp [plainName, overriddenIn]; done) | decide +kernel
theorem ef_in4 (m : MethodId) (x : Addr) (b : Addr) (N : Int32) : entryFrame m #[.ref x, .ref b, .int 0, .int N, .null] 6 = mkF m 0 #[.val (.ref x), .val (.ref b), .val (.int 0), .val (.int N), .val (.null), .unset] [] := by first | (simp [entryFrame, mkF, argsToLocals, Value.category]; done) | rfl
set_option maxRecDepth 65536 in
set_option maxHeartbeats 40000000 in
theorem rm_in4 {l : Launch} {Z : State} {a0 : Array Value} {zc : Int32}  (G : Gl Z a0 zc ) (h : Heap) (x : Addr) (b : Addr) (N : Int32) (kb : ClassId) (cs : List Int32) (v0 v1 : Value) (hN : N = Int32.ofNat cs.length) (h0n : 0 < cs.length) (hB : cs.length ≤ 8) (hcs : ∀ c ∈ cs, Chr c) (K : Arv Z h b kb .char N (cs.map Value.int) (.int 0)) (E0 : Exa Z h x ST) (F_v : Fld Z h x ST "value" "[B" v0) (F_c : Fld Z h x ST "coder" "B" v1) :
    Met l Z consts_1 (⟨"java/lang/String", "<init>", "([CIILjava/lang/Void;)V"⟩ : MethodName) jdk_42_method_149_code 6 none ({ frames := 4, cells := 2, slots := 24, locals := 57 } : Room) #[.ref x, .ref b, .int 0, .int N, .null] h [x] [x] (fun v h' => v = none ∧ Str Z h' x cs) := by
  have G0 := G
  obtain ⟨hw, hEL, SC, hz, SA, SH, SL⟩ := G
  have hw1 : ∀ d ∈ StrChars.Road.words, d.before a0 Z = true := fun d q => hw d (sub1 d q)
  have hwA : ∀ d ∈ Bundle.stringAtoms, d.before a0 Z = true := fun d q => hw d (subA d q)
  have hw2 : ∀ d ∈ wordsS, d.before a0 Z = true := fun d q => hw d (sub2 d q)
  have hwE : ∀ d ∈ StrChars.Road.wordsEq, d.before a0 Z = true := fun d q => hw d (subE d q)
  refine Met.of (plainFor_of_name pn_1) ?_
  intro p e s m below meth c T hnm hret hlk hby hml hs w
  have hZ0 := w.old
  refine Run.cast (ef_in4 m x b N) ?_
  refine s_aload_n w (hb hby din4_0) rfl rfl (pc' := 1) rfl ?_
  refine w_objInit w (hw _ (List.mem_of_getElem? (i := 21) rfl)) (hw _ (List.mem_of_getElem? (i := 22) rfl)) (hw _ (List.mem_of_getElem? (i := 23) rfl)) (hb hby din4_1) (by rw [hml]; rfl) (by decide) (W := 0) (Nat.le_of_eq rfl) (by decide) (pc' := 4) rfl fun T w => ?_
  refine s_iload_n w (hb hby din4_4) rfl (pc' := 5) rfl ?_
  refine s_if_ne w (hb hby din4_5) (by decide) (pc1 := 8) rfl (pc2 := 27) rfl (fun ct1 => ?_) (fun ct1 => ?_)
  · exact absurd (ofN_inj (k := 0) (by omega) (by omega) (hN.symm.trans ct1)) (by omega)
  · skip
    refine w_getS w (hw _ (List.mem_of_getElem? (i := 43) rfl)) Via.refl (SC.ext w.old) (hb hby din4_27) (pc' := 30) rfl fun T w => ?_
    refine s_if_eq w (hb hby din4_30) (by decide) (pc1 := 33) rfl (pc2 := 58) rfl (fun ct2 => ?_) (fun ct2 => ?_)
    · skip
      refine s_aload_n w (hb hby din4_33) rfl rfl (pc' := 34) rfl ?_
      refine s_iload_n w (hb hby din4_34) rfl (pc' := 35) rfl ?_
      refine s_iload_n w (hb hby din4_35) rfl (pc' := 36) rfl ?_
      refine w_static w hEL (y := (⟨"java/lang/StringUTF16", "compress", "([CII)[B"⟩ : MethodName)) (hw _ (List.mem_of_getElem? (i := 49) rfl)) (hw _ (List.mem_of_getElem? (i := 50) rfl)) (hw _ (List.mem_of_getElem? (i := 51) rfl)) (hw _ (List.mem_of_getElem? (i := 52) rfl)) (by decide) (rm_cp3 G0 h b N kb cs hN hB hcs K) all0 all0 (argsL := [.ref b, .int 0, .int N]) (rest := []) (lenOf (by decide +kernel : parseMethodDescriptor "([CII)[B" = some ⟨[(.array .char), .int, .int], (some (.array .byte))⟩) rfl) rfl rfl (hb hby din4_36) (by rw [hml]; rfl) (W := 0) (Nat.le_of_eq rfl) (by decide) (by decide) (by decide) (by decide) (pc' := 39) rfl fun u3 T h4 w K5 P6 => ?_
      obtain ⟨t, kt, cd, N2, vs, rfl, ht, At, Ct⟩ := P6
      have E7 := Keep.ext0 K5
      have E1 := E7
      show Run p e below _ T (mkF m 39 #[.val (.ref x), .val (.ref b), .val (.int 0), .val (.int N), .val (.null), .unset] [.ref t])
      refine s_astore w #[.val (.ref x), .val (.ref b), .val (.int 0), .val (.int N), .val (.null), .val (.ref t)] (hb hby din4_39) rfl rfl (pc' := 41) rfl ?_
      refine s_aload_n w (hb hby din4_41) rfl rfl (pc' := 42) rfl ?_
      refine s_aload w (hb hby din4_42) rfl rfl (pc' := 44) rfl ?_
      refine s_iload_n w (hb hby din4_44) rfl (pc' := 45) rfl ?_
      refine w_static w hEL (y := (⟨"java/lang/StringUTF16", "coderFromArrayLen", "([BI)B"⟩ : MethodName)) (hw _ (List.mem_of_getElem? (i := 56) rfl)) (hw _ (List.mem_of_getElem? (i := 57) rfl)) (hw _ (List.mem_of_getElem? (i := 51) rfl)) (hw _ (List.mem_of_getElem? (i := 58) rfl)) (by decide) (rm_cfl G0 h4 t N kt cs cd N2 vs At Ct hN h0n (by omega)) all0 all0 (argsL := [.ref t, .int N]) (rest := [.ref x]) (lenOf (by decide +kernel : parseMethodDescriptor "([BI)B" = some ⟨[(.array .byte), .int], (some .byte)⟩) rfl) rfl rfl (hb hby din4_45) (by rw [hml]; rfl) (W := 1) (Nat.le_of_eq rfl) (by decide) (by decide) (by decide) (by decide) (pc' := 48) rfl fun u8 T h9 w K10 P11 => ?_
      obtain ⟨rfl, rfl⟩ := P11
      show Run p e below _ T (mkF m 48 #[.val (.ref x), .val (.ref b), .val (.int 0), .val (.int N), .val (.null), .val (.ref t)] [.int cd, .ref x])
      have nxt : t ≠ x := fun z => by obtain ⟨cl, k0, A, -⟩ := E0; have := (Array.getElem?_eq_some_iff.mp A).1; rw [← z] at this; exact absurd ht (Nat.not_le.mpr this)
      have sn : Jvm.RoadKit.slotOf Z "java/lang/String" "value" "[B" ≠ Jvm.RoadKit.slotOf Z "java/lang/String" "coder" "B" := slot_ne (Or.inr (hw _ (List.mem_of_getElem? (i := 26) rfl))) (Or.inr (hw _ (List.mem_of_getElem? (i := 27) rfl))) (by decide) (t := .array .byte) (t' := .byte) (by decide) (by decide)
      refine w_putF w (hw _ (List.mem_of_getElem? (i := 31) rfl)) Via.refl (F_c.ext E1) (E0.ext E1) (Or.inr ⟨(hw _ (List.mem_of_getElem? (i := 27) rfl)), rfl, hnm⟩) (hw _ (List.mem_of_getElem? (i := 11) rfl)) (ty := .byte) (by decide) (coda_bit Ct).1 (coda_bit Ct).2 (hb hby din4_48) (Or.inl (List.mem_singleton.mpr rfl)) (Or.inr (List.mem_singleton.mpr rfl)) (pc' := 51) rfl fun T g1 w W1 F1 X1 => ?_
      refine s_aload_n w (hb hby din4_51) rfl rfl (pc' := 52) rfl ?_
      refine s_aload w (hb hby din4_52) rfl rfl (pc' := 54) rfl ?_
      refine w_putF w (hw _ (List.mem_of_getElem? (i := 30) rfl)) Via.refl ((F_v.ext E1).other W1 (Or.inr sn)) X1 (Or.inr ⟨(hw _ (List.mem_of_getElem? (i := 26) rfl)), rfl, hnm⟩) (hw _ (List.mem_of_getElem? (i := 11) rfl)) (ty := (.array .byte)) (by decide) rfl rfl (hb hby din4_54) (Or.inl (List.mem_singleton.mpr rfl)) (Or.inr (List.mem_singleton.mpr rfl)) (pc' := 57) rfl fun T g2 w W2 F2 X2 => ?_
      exact w_return w hEL hs hlk hret (hb hby din4_57) (by decide) (by decide) ⟨rfl, X2, t, kt, cd, N2, vs, F2, F1.other W2 (Or.inr sn.symm), (At.other W1 nxt).other W2 nxt, Ct, hcs, by omega⟩
    · exact absurd ct2 hz
theorem din1_0 : decode jdk_42_method_3_code 0 = .ok (.aload_n 0, 1) := by decide +kernel
theorem din1_1 : decode jdk_42_method_3_code 1 = .ok (.aload_n 1, 1) := by decide +kernel
theorem din1_2 : decode jdk_42_method_3_code 2 = .ok (.iconst 0, 1) := by decide +kernel
theorem din1_3 : decode jdk_42_method_3_code 3 = .ok (.aload_n 1, 1) := by decide +kernel
theorem din1_4 : decode jdk_42_method_3_code 4 = .ok (.arraylength, 1) := by decide +kernel
theorem din1_5 : decode jdk_42_method_3_code 5 = .ok (.aconst_null, 1) := by decide +kernel
theorem din1_6 : decode jdk_42_method_3_code 6 = .ok (.invokespecial 27, 3) := by decide +kernel
theorem din1_9 : decode jdk_42_method_3_code 9 = .ok (.return_, 1) := by decide +kernel
theorem ef_in1 (m : MethodId) (x : Addr) (b : Addr) : entryFrame m #[.ref x, .ref b] 2 = mkF m 0 #[.val (.ref x), .val (.ref b)] [] := by first | (simp [entryFrame, mkF, argsToLocals, Value.category]; done) | rfl
set_option maxRecDepth 65536 in
set_option maxHeartbeats 40000000 in
theorem rm_in1 {l : Launch} {Z : State} {a0 : Array Value} {zc : Int32}  (G : Gl Z a0 zc ) (h : Heap) (x : Addr) (b : Addr) (N : Int32) (kb : ClassId) (cs : List Int32) (v0 v1 : Value) (hN : N = Int32.ofNat cs.length) (h0n : 0 < cs.length) (hB : cs.length ≤ 8) (hcs : ∀ c ∈ cs, Chr c) (K : Arv Z h b kb .char N (cs.map Value.int) (.int 0)) (E0 : Exa Z h x ST) (F_v : Fld Z h x ST "value" "[B" v0) (F_c : Fld Z h x ST "coder" "B" v1) :
    Met l Z consts_1 (⟨"java/lang/String", "<init>", "([C)V"⟩ : MethodName) jdk_42_method_3_code 2 none ({ frames := 5, cells := 2, slots := 24, locals := 74 } : Room) #[.ref x, .ref b] h [x] [x] (fun v h' => v = none ∧ Str Z h' x cs) := by
  have G0 := G
  obtain ⟨hw, hEL, SC, hz, SA, SH, SL⟩ := G
  have hw1 : ∀ d ∈ StrChars.Road.words, d.before a0 Z = true := fun d q => hw d (sub1 d q)
  have hwA : ∀ d ∈ Bundle.stringAtoms, d.before a0 Z = true := fun d q => hw d (subA d q)
  have hw2 : ∀ d ∈ wordsS, d.before a0 Z = true := fun d q => hw d (sub2 d q)
  have hwE : ∀ d ∈ StrChars.Road.wordsEq, d.before a0 Z = true := fun d q => hw d (subE d q)
  refine Met.of (plainFor_of_name pn_1) ?_
  intro p e s m below meth c T hnm hret hlk hby hml hs w
  have hZ0 := w.old
  refine Run.cast (ef_in1 m x b) ?_
  refine s_aload_n w (hb hby din1_0) rfl rfl (pc' := 1) rfl ?_
  refine s_aload_n w (hb hby din1_1) rfl rfl (pc' := 2) rfl ?_
  refine s_iconst w (hb hby din1_2) (v := 0) rfl (pc' := 3) rfl ?_
  refine s_aload_n w (hb hby din1_3) rfl rfl (pc' := 4) rfl ?_
  refine w_len w K (hb hby din1_4) (pc' := 5) rfl ?_
  refine s_anull w (hb hby din1_5) (pc' := 6) rfl ?_
  refine w_special w hEL (y := (⟨"java/lang/String", "<init>", "([CIILjava/lang/Void;)V"⟩ : MethodName)) (a := x) rfl (hw _ (List.mem_of_getElem? (i := 17) rfl)) (hw _ (List.mem_of_getElem? (i := 18) rfl)) (hw _ (List.mem_of_getElem? (i := 12) rfl)) (hw _ (List.mem_of_getElem? (i := 20) rfl)) (by decide) (rm_in4 G0 h x b N kb cs v0 v1 hN h0n hB hcs K E0 F_v F_c) (allS (List.mem_of_getElem? (i := 0) rfl) all0) (allP (Or.inl (List.mem_singleton.mpr rfl))) (argsL := [.ref b, .int 0, .int N, .null]) (rest := []) (lenOf (by decide +kernel : parseMethodDescriptor "([CIILjava/lang/Void;)V" = some ⟨[(.array .char), .int, .int, (.object "java/lang/Void")], none⟩) rfl) rfl rfl (hb hby din1_6) (by rw [hml]; rfl) (W := 0) (Nat.le_of_eq rfl) (by decide) (by decide) (by decide) (by decide) (pc' := 9) rfl fun u1 T h2 w K3 P4 => ?_
  obtain ⟨rfl, P9⟩ := P4
  show Run p e below _ T (mkF m 9 #[.val (.ref x), .val (.ref b)] [])
  exact w_return w hEL hs hlk hret (hb hby din1_9) (by decide) (by decide) ⟨rfl, P9⟩
theorem i32_65535 : (65535 : Int32).toInt = 65535 := by decide
theorem chr_iff {c : Int32} : Chr c ↔ 0 ≤ c.toInt ∧ c.toInt ≤ 65535 := by
  unfold Chr
  rw [Int32.lt_iff_toInt_lt, Int32.lt_iff_toInt_lt, i32_0, i32_65535]
  omega
theorem Chr.nar {c : Int32} (h : Chr c) : nar .char c = c := nar_id (by have := chr_iff.mp h; omega)
theorem chr_nar (x : Int32) : Chr (nar .char x) := by
  have q := c_i2c x
  rw [← nar_char] at q
  rw [chr_iff]
  omega

theorem dlch_0 : decode method_4_code 0 = .ok (.iload_n 0, 1) := by decide +kernel
theorem dlch_1 : decode method_4_code 1 = .ok (.ifCond .eq 8, 3) := by decide +kernel
theorem dlch_4 : decode method_4_code 4 = .ok (.iload_n 0, 1) := by decide +kernel
theorem dlch_5 : decode method_4_code 5 = .ok (.iconst 1, 1) := by decide +kernel
theorem dlch_6 : decode method_4_code 6 = .ok (.if_icmp .ne 6, 3) := by decide +kernel
theorem dlch_9 : decode method_4_code 9 = .ok (.bipush 45, 2) := by decide +kernel
theorem dlch_11 : decode method_4_code 11 = .ok (.ireturn, 1) := by decide +kernel
theorem dlch_12 : decode method_4_code 12 = .ok (.iload_n 0, 1) := by decide +kernel
theorem dlch_13 : decode method_4_code 13 = .ok (.iconst 2, 1) := by decide +kernel
theorem dlch_14 : decode method_4_code 14 = .ok (.if_icmp .ne 6, 3) := by decide +kernel
theorem dlch_17 : decode method_4_code 17 = .ok (.bipush 104, 2) := by decide +kernel
theorem dlch_19 : decode method_4_code 19 = .ok (.ireturn, 1) := by decide +kernel
theorem dlch_20 : decode method_4_code 20 = .ok (.iload_n 0, 1) := by decide +kernel
theorem dlch_21 : decode method_4_code 21 = .ok (.iconst 3, 1) := by decide +kernel
theorem dlch_22 : decode method_4_code 22 = .ok (.if_icmp .ne 6, 3) := by decide +kernel
theorem dlch_25 : decode method_4_code 25 = .ok (.bipush 101, 2) := by decide +kernel
theorem dlch_27 : decode method_4_code 27 = .ok (.ireturn, 1) := by decide +kernel
theorem dlch_28 : decode method_4_code 28 = .ok (.iload_n 0, 1) := by decide +kernel
theorem dlch_29 : decode method_4_code 29 = .ok (.iconst 4, 1) := by decide +kernel
theorem dlch_30 : decode method_4_code 30 = .ok (.if_icmp .ne 6, 3) := by decide +kernel
theorem dlch_33 : decode method_4_code 33 = .ok (.bipush 108, 2) := by decide +kernel
theorem dlch_35 : decode method_4_code 35 = .ok (.ireturn, 1) := by decide +kernel
theorem dlch_36 : decode method_4_code 36 = .ok (.bipush 112, 2) := by decide +kernel
theorem dlch_38 : decode method_4_code 38 = .ok (.ireturn, 1) := by decide +kernel
theorem pn_2 : plainName "com/example/benchwire/benchwire/cli/HelpAsksPinLaw" = true := by first | (simp [plainName, overriddenIn]; done) | decide +kernel
theorem ef_lch (m : MethodId) (i : Int32) : entryFrame m #[.int i] 1 = mkF m 0 #[.val (.int i)] [] := by first | (simp [entryFrame, mkF, argsToLocals, Value.category]; done) | rfl
set_option maxRecDepth 65536 in
set_option maxHeartbeats 40000000 in
theorem rm_lch {l : Launch} {Z : State} {a0 : Array Value} {zc : Int32}  (G : Gl Z a0 zc ) (h : Heap) (i : Int32)  :
    Met l Z consts_1 (⟨"com/example/benchwire/benchwire/cli/HelpAsksPinLaw", "longChar", "(I)C"⟩ : MethodName) method_4_code 1 (some .char) ({ frames := 0, cells := 0, slots := 0, locals := 0 } : Room) #[.int i] h [] [] (fun v h' => ∃ q, v = some (.int q) ∧ h = h' ∧ Chr q) := by
  have G0 := G
  obtain ⟨hw, hEL, SC, hz, SA, SH, SL⟩ := G
  have hw1 : ∀ d ∈ StrChars.Road.words, d.before a0 Z = true := fun d q => hw d (sub1 d q)
  have hwA : ∀ d ∈ Bundle.stringAtoms, d.before a0 Z = true := fun d q => hw d (subA d q)
  have hw2 : ∀ d ∈ wordsS, d.before a0 Z = true := fun d q => hw d (sub2 d q)
  have hwE : ∀ d ∈ StrChars.Road.wordsEq, d.before a0 Z = true := fun d q => hw d (subE d q)
  refine Met.of (plainFor_of_name pn_2) ?_
  intro p e s m below meth c T hnm hret hlk hby hml hs w
  have hZ0 := w.old
  refine Run.cast (ef_lch m i) ?_
  refine s_iload_n w (hb hby dlch_0) rfl (pc' := 1) rfl ?_
  refine s_if_eq w (hb hby dlch_1) (by decide) (pc1 := 4) rfl (pc2 := 9) rfl (fun ct1 => ?_) (fun ct1 => ?_)
  · -- ¬ (i = 0)
    refine s_iload_n w (hb hby dlch_4) rfl (pc' := 5) rfl ?_
    refine s_iconst w (hb hby dlch_5) (v := 1) rfl (pc' := 6) rfl ?_
    refine s_icmp_ne w (hb hby dlch_6) (by decide) (pc1 := 9) rfl (pc2 := 12) rfl (fun ct2 => ?_) (fun ct2 => ?_)
    · -- i = 1
      refine s_bipush w (hb hby dlch_9) (v := 45) rfl (pc' := 11) rfl ?_
      exact w_ireturn w hEL hs hlk hret (narrow_ch (show Chr 45 by unfold Chr; decide).1 (show Chr 45 by unfold Chr; decide).2) (Or.inr (Or.inr (Or.inr (Or.inl rfl)))) (hb hby dlch_11) (by decide) (by decide) ⟨_, rfl, rfl, (show Chr 45 by unfold Chr; decide)⟩
    · -- ¬ (i = 1)
      refine s_iload_n w (hb hby dlch_12) rfl (pc' := 13) rfl ?_
      refine s_iconst w (hb hby dlch_13) (v := 2) rfl (pc' := 14) rfl ?_
      refine s_icmp_ne w (hb hby dlch_14) (by decide) (pc1 := 17) rfl (pc2 := 20) rfl (fun ct3 => ?_) (fun ct3 => ?_)
      · -- i = 2
        refine s_bipush w (hb hby dlch_17) (v := 104) rfl (pc' := 19) rfl ?_
        exact w_ireturn w hEL hs hlk hret (narrow_ch (show Chr 104 by unfold Chr; decide).1 (show Chr 104 by unfold Chr; decide).2) (Or.inr (Or.inr (Or.inr (Or.inl rfl)))) (hb hby dlch_19) (by decide) (by decide) ⟨_, rfl, rfl, (show Chr 104 by unfold Chr; decide)⟩
      · -- ¬ (i = 2)
        refine s_iload_n w (hb hby dlch_20) rfl (pc' := 21) rfl ?_
        refine s_iconst w (hb hby dlch_21) (v := 3) rfl (pc' := 22) rfl ?_
        refine s_icmp_ne w (hb hby dlch_22) (by decide) (pc1 := 25) rfl (pc2 := 28) rfl (fun ct4 => ?_) (fun ct4 => ?_)
        · -- i = 3
          refine s_bipush w (hb hby dlch_25) (v := 101) rfl (pc' := 27) rfl ?_
          exact w_ireturn w hEL hs hlk hret (narrow_ch (show Chr 101 by unfold Chr; decide).1 (show Chr 101 by unfold Chr; decide).2) (Or.inr (Or.inr (Or.inr (Or.inl rfl)))) (hb hby dlch_27) (by decide) (by decide) ⟨_, rfl, rfl, (show Chr 101 by unfold Chr; decide)⟩
        · -- ¬ (i = 3)
          refine s_iload_n w (hb hby dlch_28) rfl (pc' := 29) rfl ?_
          refine s_iconst w (hb hby dlch_29) (v := 4) rfl (pc' := 30) rfl ?_
          refine s_icmp_ne w (hb hby dlch_30) (by decide) (pc1 := 33) rfl (pc2 := 36) rfl (fun ct5 => ?_) (fun ct5 => ?_)
          · -- i = 4
            refine s_bipush w (hb hby dlch_33) (v := 108) rfl (pc' := 35) rfl ?_
            exact w_ireturn w hEL hs hlk hret (narrow_ch (show Chr 108 by unfold Chr; decide).1 (show Chr 108 by unfold Chr; decide).2) (Or.inr (Or.inr (Or.inr (Or.inl rfl)))) (hb hby dlch_35) (by decide) (by decide) ⟨_, rfl, rfl, (show Chr 108 by unfold Chr; decide)⟩
          · -- ¬ (i = 4)
            refine s_bipush w (hb hby dlch_36) (v := 112) rfl (pc' := 38) rfl ?_
            exact w_ireturn w hEL hs hlk hret (narrow_ch (show Chr 112 by unfold Chr; decide).1 (show Chr 112 by unfold Chr; decide).2) (Or.inr (Or.inr (Or.inr (Or.inl rfl)))) (hb hby dlch_38) (by decide) (by decide) ⟨_, rfl, rfl, (show Chr 112 by unfold Chr; decide)⟩
  · -- i = 0
    refine s_bipush w (hb hby dlch_9) (v := 45) rfl (pc' := 11) rfl ?_
    exact w_ireturn w hEL hs hlk hret (narrow_ch (show Chr 45 by unfold Chr; decide).1 (show Chr 45 by unfold Chr; decide).2) (Or.inr (Or.inr (Or.inr (Or.inl rfl)))) (hb hby dlch_11) (by decide) (by decide) ⟨_, rfl, rfl, (show Chr 45 by unfold Chr; decide)⟩
theorem dpick_0 : decode method_3_code 0 = .ok (.iload 4, 2) := by decide +kernel
theorem dpick_2 : decode method_3_code 2 = .ok (.ifCond .eq 16, 3) := by decide +kernel
theorem dpick_5 : decode method_3_code 5 = .ok (.iload_n 1, 1) := by decide +kernel
theorem dpick_6 : decode method_3_code 6 = .ok (.iload 5, 2) := by decide +kernel
theorem dpick_8 : decode method_3_code 8 = .ok (.if_icmp .ne 10, 3) := by decide +kernel
theorem dpick_11 : decode method_3_code 11 = .ok (.iload 6, 2) := by decide +kernel
theorem dpick_13 : decode method_3_code 13 = .ok (.ldc 23, 2) := by decide +kernel
theorem dpick_15 : decode method_3_code 15 = .ok (.iand, 1) := by decide +kernel
theorem dpick_16 : decode method_3_code 16 = .ok (.i2c, 1) := by decide +kernel
theorem dpick_17 : decode method_3_code 17 = .ok (.ireturn, 1) := by decide +kernel
theorem dpick_18 : decode method_3_code 18 = .ok (.iload_n 0, 1) := by decide +kernel
theorem dpick_19 : decode method_3_code 19 = .ok (.ifCond .ne 14, 3) := by decide +kernel
theorem dpick_22 : decode method_3_code 22 = .ok (.iload_n 1, 1) := by decide +kernel
theorem dpick_23 : decode method_3_code 23 = .ok (.bipush 6, 2) := by decide +kernel
theorem dpick_25 : decode method_3_code 25 = .ok (.if_icmp .ge 8, 3) := by decide +kernel
theorem dpick_28 : decode method_3_code 28 = .ok (.iload_n 1, 1) := by decide +kernel
theorem dpick_29 : decode method_3_code 29 = .ok (.invokestatic 24, 3) := by decide +kernel
theorem dpick_32 : decode method_3_code 32 = .ok (.ireturn, 1) := by decide +kernel
theorem dpick_33 : decode method_3_code 33 = .ok (.iload_n 0, 1) := by decide +kernel
theorem dpick_34 : decode method_3_code 34 = .ok (.iconst 1, 1) := by decide +kernel
theorem dpick_35 : decode method_3_code 35 = .ok (.if_icmp .ne 18, 3) := by decide +kernel
theorem dpick_38 : decode method_3_code 38 = .ok (.iload_n 1, 1) := by decide +kernel
theorem dpick_39 : decode method_3_code 39 = .ok (.iconst 2, 1) := by decide +kernel
theorem dpick_40 : decode method_3_code 40 = .ok (.if_icmp .ge 13, 3) := by decide +kernel
theorem dpick_43 : decode method_3_code 43 = .ok (.iload_n 1, 1) := by decide +kernel
theorem dpick_44 : decode method_3_code 44 = .ok (.ifCond .ne 6, 3) := by decide +kernel
theorem dpick_47 : decode method_3_code 47 = .ok (.bipush 45, 2) := by decide +kernel
theorem dpick_49 : decode method_3_code 49 = .ok (.ireturn, 1) := by decide +kernel
theorem dpick_50 : decode method_3_code 50 = .ok (.bipush 104, 2) := by decide +kernel
theorem dpick_52 : decode method_3_code 52 = .ok (.ireturn, 1) := by decide +kernel
theorem dpick_53 : decode method_3_code 53 = .ok (.iload_n 1, 1) := by decide +kernel
theorem dpick_54 : decode method_3_code 54 = .ok (.iconst 4, 1) := by decide +kernel
theorem dpick_55 : decode method_3_code 55 = .ok (.if_icmp .ge 7, 3) := by decide +kernel
theorem dpick_58 : decode method_3_code 58 = .ok (.iload_n 2, 1) := by decide +kernel
theorem dpick_59 : decode method_3_code 59 = .ok (.goto 4, 3) := by decide +kernel
theorem dpick_62 : decode method_3_code 62 = .ok (.iload_n 3, 1) := by decide +kernel
theorem dpick_63 : decode method_3_code 63 = .ok (.istore 7, 2) := by decide +kernel
theorem dpick_65 : decode method_3_code 65 = .ok (.iload 7, 2) := by decide +kernel
theorem dpick_67 : decode method_3_code 67 = .ok (.bipush 8, 2) := by decide +kernel
theorem dpick_69 : decode method_3_code 69 = .ok (.iload_n 1, 1) := by decide +kernel
theorem dpick_70 : decode method_3_code 70 = .ok (.iconst 3, 1) := by decide +kernel
theorem dpick_71 : decode method_3_code 71 = .ok (.iand, 1) := by decide +kernel
theorem dpick_72 : decode method_3_code 72 = .ok (.imul, 1) := by decide +kernel
theorem dpick_73 : decode method_3_code 73 = .ok (.iushr, 1) := by decide +kernel
theorem dpick_74 : decode method_3_code 74 = .ok (.sipush 255, 3) := by decide +kernel
theorem dpick_77 : decode method_3_code 77 = .ok (.iand, 1) := by decide +kernel
theorem dpick_78 : decode method_3_code 78 = .ok (.i2c, 1) := by decide +kernel
theorem dpick_79 : decode method_3_code 79 = .ok (.ireturn, 1) := by decide +kernel
theorem ef_pick (m : MethodId) (mo : Int32) (i : Int32) (x1 : Int32) (x2 : Int32) (pb : Int32) (pp : Int32) (ch : Int32) : entryFrame m #[.int mo, .int i, .int x1, .int x2, .int pb, .int pp, .int ch] 8 = mkF m 0 #[.val (.int mo), .val (.int i), .val (.int x1), .val (.int x2), .val (.int pb), .val (.int pp), .val (.int ch), .unset] [] := by first | (simp [entryFrame, mkF, argsToLocals, Value.category]; done) | rfl
set_option maxRecDepth 65536 in
set_option maxHeartbeats 40000000 in
theorem rm_pick {l : Launch} {Z : State} {a0 : Array Value} {zc : Int32}  (G : Gl Z a0 zc ) (h : Heap) (mo : Int32) (i : Int32) (x1 : Int32) (x2 : Int32) (pb : Int32) (pp : Int32) (ch : Int32)  :
    Met l Z consts_1 (⟨"com/example/benchwire/benchwire/cli/HelpAsksPinLaw", "pick", "(IIIIZII)C"⟩ : MethodName) method_3_code 8 (some .char) ({ frames := 1, cells := 0, slots := 0, locals := 12 } : Room) #[.int mo, .int i, .int x1, .int x2, .int pb, .int pp, .int ch] h [] [] (fun v h' => ∃ q, v = some (.int q) ∧ h = h' ∧ Chr q) := by
  have G0 := G
  obtain ⟨hw, hEL, SC, hz, SA, SH, SL⟩ := G
  have hw1 : ∀ d ∈ StrChars.Road.words, d.before a0 Z = true := fun d q => hw d (sub1 d q)
  have hwA : ∀ d ∈ Bundle.stringAtoms, d.before a0 Z = true := fun d q => hw d (subA d q)
  have hw2 : ∀ d ∈ wordsS, d.before a0 Z = true := fun d q => hw d (sub2 d q)
  have hwE : ∀ d ∈ StrChars.Road.wordsEq, d.before a0 Z = true := fun d q => hw d (subE d q)
  refine Met.of (plainFor_of_name pn_2) ?_
  intro p e s m below meth c T hnm hret hlk hby hml hs w
  have hZ0 := w.old
  refine Run.cast (ef_pick m mo i x1 x2 pb pp ch) ?_
  refine s_iload w (hb hby dpick_0) rfl (pc' := 2) rfl ?_
  refine s_if_eq w (hb hby dpick_2) (by decide) (pc1 := 5) rfl (pc2 := 18) rfl (fun ct1 => ?_) (fun ct1 => ?_)
  · -- ¬ (pb = 0)
    refine s_iload_n w (hb hby dpick_5) rfl (pc' := 6) rfl ?_
    refine s_iload w (hb hby dpick_6) rfl (pc' := 8) rfl ?_
    refine s_icmp_ne w (hb hby dpick_8) (by decide) (pc1 := 11) rfl (pc2 := 18) rfl (fun ct2 => ?_) (fun ct2 => ?_)
    · -- i = pp
      refine s_iload w (hb hby dpick_11) rfl (pc' := 13) rfl ?_
      refine w_ldcI w (v := 65535) (hw _ (List.mem_of_getElem? (i := 59) rfl)) (hb hby dpick_13) (pc' := 15) rfl ?_
      refine s_iand w (hb hby dpick_15) (pc' := 16) rfl ?_
      refine s_i2c w (hb hby dpick_16) (pc' := 17) rfl ?_
      exact w_ireturn w hEL hs hlk hret (narrow_ch (chr_nar _).1 (chr_nar _).2) (Or.inr (Or.inr (Or.inr (Or.inl rfl)))) (hb hby dpick_17) (by decide) (by decide) ⟨_, rfl, rfl, (chr_nar _)⟩
    · -- ¬ (i = pp)
      refine s_iload_n w (hb hby dpick_18) rfl (pc' := 19) rfl ?_
      refine s_if_ne w (hb hby dpick_19) (by decide) (pc1 := 22) rfl (pc2 := 33) rfl (fun ct3 => ?_) (fun ct3 => ?_)
      · -- mo = 0
        refine s_iload_n w (hb hby dpick_22) rfl (pc' := 23) rfl ?_
        refine s_bipush w (hb hby dpick_23) (v := 6) rfl (pc' := 25) rfl ?_
        refine s_icmp_ge w (hb hby dpick_25) (by decide) (pc1 := 28) rfl (pc2 := 33) rfl (fun ct4 => ?_) (fun ct4 => ?_)
        · -- i < 6
          refine s_iload_n w (hb hby dpick_28) rfl (pc' := 29) rfl ?_
          refine w_static w hEL (y := (⟨"com/example/benchwire/benchwire/cli/HelpAsksPinLaw", "longChar", "(I)C"⟩ : MethodName)) (hw _ (List.mem_of_getElem? (i := 4) rfl)) (hw _ (List.mem_of_getElem? (i := 5) rfl)) (hw _ (List.mem_of_getElem? (i := 2) rfl)) (hw _ (List.mem_of_getElem? (i := 6) rfl)) (by decide) (rm_lch G0 h i) all0 all0 (argsL := [.int i]) (rest := []) (lenOf (by decide +kernel : parseMethodDescriptor "(I)C" = some ⟨[.int], (some .char)⟩) rfl) rfl rfl (hb hby dpick_29) (by rw [hml]; rfl) (W := 0) (Nat.le_of_eq rfl) (by decide) (by decide) (by decide) (by decide) (pc' := 32) rfl fun u5 T h6 w K7 P8 => ?_
          obtain ⟨q0, rfl, rfl, lq0⟩ := P8
          show Run p e below _ T (mkF m 32 #[.val (.int mo), .val (.int i), .val (.int x1), .val (.int x2), .val (.int pb), .val (.int pp), .val (.int ch), .unset] [.int q0])
          exact w_ireturn w hEL hs hlk hret (narrow_ch lq0.1 lq0.2) (Or.inr (Or.inr (Or.inr (Or.inl rfl)))) (hb hby dpick_32) (by decide) (by decide) ⟨_, rfl, rfl, lq0⟩
        · -- ¬ (i < 6)
          refine s_iload_n w (hb hby dpick_33) rfl (pc' := 34) rfl ?_
          refine s_iconst w (hb hby dpick_34) (v := 1) rfl (pc' := 35) rfl ?_
          refine s_icmp_ne w (hb hby dpick_35) (by decide) (pc1 := 38) rfl (pc2 := 53) rfl (fun ct9 => ?_) (fun ct9 => ?_)
          · -- mo = 1
            refine s_iload_n w (hb hby dpick_38) rfl (pc' := 39) rfl ?_
            refine s_iconst w (hb hby dpick_39) (v := 2) rfl (pc' := 40) rfl ?_
            refine s_icmp_ge w (hb hby dpick_40) (by decide) (pc1 := 43) rfl (pc2 := 53) rfl (fun ct10 => ?_) (fun ct10 => ?_)
            · -- i < 2
              refine s_iload_n w (hb hby dpick_43) rfl (pc' := 44) rfl ?_
              refine s_if_ne w (hb hby dpick_44) (by decide) (pc1 := 47) rfl (pc2 := 50) rfl (fun ct11 => ?_) (fun ct11 => ?_)
              · -- i = 0
                refine s_bipush w (hb hby dpick_47) (v := 45) rfl (pc' := 49) rfl ?_
                exact w_ireturn w hEL hs hlk hret (narrow_ch (show Chr 45 by unfold Chr; decide).1 (show Chr 45 by unfold Chr; decide).2) (Or.inr (Or.inr (Or.inr (Or.inl rfl)))) (hb hby dpick_49) (by decide) (by decide) ⟨_, rfl, rfl, (show Chr 45 by unfold Chr; decide)⟩
              · -- ¬ (i = 0)
                refine s_bipush w (hb hby dpick_50) (v := 104) rfl (pc' := 52) rfl ?_
                exact w_ireturn w hEL hs hlk hret (narrow_ch (show Chr 104 by unfold Chr; decide).1 (show Chr 104 by unfold Chr; decide).2) (Or.inr (Or.inr (Or.inr (Or.inl rfl)))) (hb hby dpick_52) (by decide) (by decide) ⟨_, rfl, rfl, (show Chr 104 by unfold Chr; decide)⟩
            · -- ¬ (i < 2)
              refine s_iload_n w (hb hby dpick_53) rfl (pc' := 54) rfl ?_
              refine s_iconst w (hb hby dpick_54) (v := 4) rfl (pc' := 55) rfl ?_
              refine s_icmp_ge w (hb hby dpick_55) (by decide) (pc1 := 58) rfl (pc2 := 62) rfl (fun ct12 => ?_) (fun ct12 => ?_)
              · -- i < 4
                refine s_iload_n w (hb hby dpick_58) rfl (pc' := 59) rfl ?_
                refine s_goto w (hb hby dpick_59) (by decide) (pc' := 63) rfl ?_
                refine s_istore w #[.val (.int mo), .val (.int i), .val (.int x1), .val (.int x2), .val (.int pb), .val (.int pp), .val (.int ch), .val (.int x1)] (hb hby dpick_63) rfl (pc' := 65) rfl ?_
                refine s_iload w (hb hby dpick_65) rfl (pc' := 67) rfl ?_
                refine s_bipush w (hb hby dpick_67) (v := 8) rfl (pc' := 69) rfl ?_
                refine s_iload_n w (hb hby dpick_69) rfl (pc' := 70) rfl ?_
                refine s_iconst w (hb hby dpick_70) (v := 3) rfl (pc' := 71) rfl ?_
                refine s_iand w (hb hby dpick_71) (pc' := 72) rfl ?_
                refine s_imul w (hb hby dpick_72) (pc' := 73) rfl ?_
                refine s_iushr w (hb hby dpick_73) (pc' := 74) rfl ?_
                refine s_sipush w (hb hby dpick_74) (v := 255) rfl (pc' := 77) rfl ?_
                refine s_iand w (hb hby dpick_77) (pc' := 78) rfl ?_
                refine s_i2c w (hb hby dpick_78) (pc' := 79) rfl ?_
                exact w_ireturn w hEL hs hlk hret (narrow_ch (chr_nar _).1 (chr_nar _).2) (Or.inr (Or.inr (Or.inr (Or.inl rfl)))) (hb hby dpick_79) (by decide) (by decide) ⟨_, rfl, rfl, (chr_nar _)⟩
              · -- ¬ (i < 4)
                refine s_iload_n w (hb hby dpick_62) rfl (pc' := 63) rfl ?_
                refine s_istore w #[.val (.int mo), .val (.int i), .val (.int x1), .val (.int x2), .val (.int pb), .val (.int pp), .val (.int ch), .val (.int x2)] (hb hby dpick_63) rfl (pc' := 65) rfl ?_
                refine s_iload w (hb hby dpick_65) rfl (pc' := 67) rfl ?_
                refine s_bipush w (hb hby dpick_67) (v := 8) rfl (pc' := 69) rfl ?_
                refine s_iload_n w (hb hby dpick_69) rfl (pc' := 70) rfl ?_
                refine s_iconst w (hb hby dpick_70) (v := 3) rfl (pc' := 71) rfl ?_
                refine s_iand w (hb hby dpick_71) (pc' := 72) rfl ?_
                refine s_imul w (hb hby dpick_72) (pc' := 73) rfl ?_
                refine s_iushr w (hb hby dpick_73) (pc' := 74) rfl ?_
                refine s_sipush w (hb hby dpick_74) (v := 255) rfl (pc' := 77) rfl ?_
                refine s_iand w (hb hby dpick_77) (pc' := 78) rfl ?_
                refine s_i2c w (hb hby dpick_78) (pc' := 79) rfl ?_
                exact w_ireturn w hEL hs hlk hret (narrow_ch (chr_nar _).1 (chr_nar _).2) (Or.inr (Or.inr (Or.inr (Or.inl rfl)))) (hb hby dpick_79) (by decide) (by decide) ⟨_, rfl, rfl, (chr_nar _)⟩
          · -- ¬ (mo = 1)
            refine s_iload_n w (hb hby dpick_53) rfl (pc' := 54) rfl ?_
            refine s_iconst w (hb hby dpick_54) (v := 4) rfl (pc' := 55) rfl ?_
            refine s_icmp_ge w (hb hby dpick_55) (by decide) (pc1 := 58) rfl (pc2 := 62) rfl (fun ct13 => ?_) (fun ct13 => ?_)
            · -- i < 4
              refine s_iload_n w (hb hby dpick_58) rfl (pc' := 59) rfl ?_
              refine s_goto w (hb hby dpick_59) (by decide) (pc' := 63) rfl ?_
              refine s_istore w #[.val (.int mo), .val (.int i), .val (.int x1), .val (.int x2), .val (.int pb), .val (.int pp), .val (.int ch), .val (.int x1)] (hb hby dpick_63) rfl (pc' := 65) rfl ?_
              refine s_iload w (hb hby dpick_65) rfl (pc' := 67) rfl ?_
              refine s_bipush w (hb hby dpick_67) (v := 8) rfl (pc' := 69) rfl ?_
              refine s_iload_n w (hb hby dpick_69) rfl (pc' := 70) rfl ?_
              refine s_iconst w (hb hby dpick_70) (v := 3) rfl (pc' := 71) rfl ?_
              refine s_iand w (hb hby dpick_71) (pc' := 72) rfl ?_
              refine s_imul w (hb hby dpick_72) (pc' := 73) rfl ?_
              refine s_iushr w (hb hby dpick_73) (pc' := 74) rfl ?_
              refine s_sipush w (hb hby dpick_74) (v := 255) rfl (pc' := 77) rfl ?_
              refine s_iand w (hb hby dpick_77) (pc' := 78) rfl ?_
              refine s_i2c w (hb hby dpick_78) (pc' := 79) rfl ?_
              exact w_ireturn w hEL hs hlk hret (narrow_ch (chr_nar _).1 (chr_nar _).2) (Or.inr (Or.inr (Or.inr (Or.inl rfl)))) (hb hby dpick_79) (by decide) (by decide) ⟨_, rfl, rfl, (chr_nar _)⟩
            · -- ¬ (i < 4)
              refine s_iload_n w (hb hby dpick_62) rfl (pc' := 63) rfl ?_
              refine s_istore w #[.val (.int mo), .val (.int i), .val (.int x1), .val (.int x2), .val (.int pb), .val (.int pp), .val (.int ch), .val (.int x2)] (hb hby dpick_63) rfl (pc' := 65) rfl ?_
              refine s_iload w (hb hby dpick_65) rfl (pc' := 67) rfl ?_
              refine s_bipush w (hb hby dpick_67) (v := 8) rfl (pc' := 69) rfl ?_
              refine s_iload_n w (hb hby dpick_69) rfl (pc' := 70) rfl ?_
              refine s_iconst w (hb hby dpick_70) (v := 3) rfl (pc' := 71) rfl ?_
              refine s_iand w (hb hby dpick_71) (pc' := 72) rfl ?_
              refine s_imul w (hb hby dpick_72) (pc' := 73) rfl ?_
              refine s_iushr w (hb hby dpick_73) (pc' := 74) rfl ?_
              refine s_sipush w (hb hby dpick_74) (v := 255) rfl (pc' := 77) rfl ?_
              refine s_iand w (hb hby dpick_77) (pc' := 78) rfl ?_
              refine s_i2c w (hb hby dpick_78) (pc' := 79) rfl ?_
              exact w_ireturn w hEL hs hlk hret (narrow_ch (chr_nar _).1 (chr_nar _).2) (Or.inr (Or.inr (Or.inr (Or.inl rfl)))) (hb hby dpick_79) (by decide) (by decide) ⟨_, rfl, rfl, (chr_nar _)⟩
      · -- ¬ (mo = 0)
        refine s_iload_n w (hb hby dpick_33) rfl (pc' := 34) rfl ?_
        refine s_iconst w (hb hby dpick_34) (v := 1) rfl (pc' := 35) rfl ?_
        refine s_icmp_ne w (hb hby dpick_35) (by decide) (pc1 := 38) rfl (pc2 := 53) rfl (fun ct14 => ?_) (fun ct14 => ?_)
        · -- mo = 1
          refine s_iload_n w (hb hby dpick_38) rfl (pc' := 39) rfl ?_
          refine s_iconst w (hb hby dpick_39) (v := 2) rfl (pc' := 40) rfl ?_
          refine s_icmp_ge w (hb hby dpick_40) (by decide) (pc1 := 43) rfl (pc2 := 53) rfl (fun ct15 => ?_) (fun ct15 => ?_)
          · -- i < 2
            refine s_iload_n w (hb hby dpick_43) rfl (pc' := 44) rfl ?_
            refine s_if_ne w (hb hby dpick_44) (by decide) (pc1 := 47) rfl (pc2 := 50) rfl (fun ct16 => ?_) (fun ct16 => ?_)
            · -- i = 0
              refine s_bipush w (hb hby dpick_47) (v := 45) rfl (pc' := 49) rfl ?_
              exact w_ireturn w hEL hs hlk hret (narrow_ch (show Chr 45 by unfold Chr; decide).1 (show Chr 45 by unfold Chr; decide).2) (Or.inr (Or.inr (Or.inr (Or.inl rfl)))) (hb hby dpick_49) (by decide) (by decide) ⟨_, rfl, rfl, (show Chr 45 by unfold Chr; decide)⟩
            · -- ¬ (i = 0)
              refine s_bipush w (hb hby dpick_50) (v := 104) rfl (pc' := 52) rfl ?_
              exact w_ireturn w hEL hs hlk hret (narrow_ch (show Chr 104 by unfold Chr; decide).1 (show Chr 104 by unfold Chr; decide).2) (Or.inr (Or.inr (Or.inr (Or.inl rfl)))) (hb hby dpick_52) (by decide) (by decide) ⟨_, rfl, rfl, (show Chr 104 by unfold Chr; decide)⟩
          · -- ¬ (i < 2)
            refine s_iload_n w (hb hby dpick_53) rfl (pc' := 54) rfl ?_
            refine s_iconst w (hb hby dpick_54) (v := 4) rfl (pc' := 55) rfl ?_
            refine s_icmp_ge w (hb hby dpick_55) (by decide) (pc1 := 58) rfl (pc2 := 62) rfl (fun ct17 => ?_) (fun ct17 => ?_)
            · -- i < 4
              refine s_iload_n w (hb hby dpick_58) rfl (pc' := 59) rfl ?_
              refine s_goto w (hb hby dpick_59) (by decide) (pc' := 63) rfl ?_
              refine s_istore w #[.val (.int mo), .val (.int i), .val (.int x1), .val (.int x2), .val (.int pb), .val (.int pp), .val (.int ch), .val (.int x1)] (hb hby dpick_63) rfl (pc' := 65) rfl ?_
              refine s_iload w (hb hby dpick_65) rfl (pc' := 67) rfl ?_
              refine s_bipush w (hb hby dpick_67) (v := 8) rfl (pc' := 69) rfl ?_
              refine s_iload_n w (hb hby dpick_69) rfl (pc' := 70) rfl ?_
              refine s_iconst w (hb hby dpick_70) (v := 3) rfl (pc' := 71) rfl ?_
              refine s_iand w (hb hby dpick_71) (pc' := 72) rfl ?_
              refine s_imul w (hb hby dpick_72) (pc' := 73) rfl ?_
              refine s_iushr w (hb hby dpick_73) (pc' := 74) rfl ?_
              refine s_sipush w (hb hby dpick_74) (v := 255) rfl (pc' := 77) rfl ?_
              refine s_iand w (hb hby dpick_77) (pc' := 78) rfl ?_
              refine s_i2c w (hb hby dpick_78) (pc' := 79) rfl ?_
              exact w_ireturn w hEL hs hlk hret (narrow_ch (chr_nar _).1 (chr_nar _).2) (Or.inr (Or.inr (Or.inr (Or.inl rfl)))) (hb hby dpick_79) (by decide) (by decide) ⟨_, rfl, rfl, (chr_nar _)⟩
            · -- ¬ (i < 4)
              refine s_iload_n w (hb hby dpick_62) rfl (pc' := 63) rfl ?_
              refine s_istore w #[.val (.int mo), .val (.int i), .val (.int x1), .val (.int x2), .val (.int pb), .val (.int pp), .val (.int ch), .val (.int x2)] (hb hby dpick_63) rfl (pc' := 65) rfl ?_
              refine s_iload w (hb hby dpick_65) rfl (pc' := 67) rfl ?_
              refine s_bipush w (hb hby dpick_67) (v := 8) rfl (pc' := 69) rfl ?_
              refine s_iload_n w (hb hby dpick_69) rfl (pc' := 70) rfl ?_
              refine s_iconst w (hb hby dpick_70) (v := 3) rfl (pc' := 71) rfl ?_
              refine s_iand w (hb hby dpick_71) (pc' := 72) rfl ?_
              refine s_imul w (hb hby dpick_72) (pc' := 73) rfl ?_
              refine s_iushr w (hb hby dpick_73) (pc' := 74) rfl ?_
              refine s_sipush w (hb hby dpick_74) (v := 255) rfl (pc' := 77) rfl ?_
              refine s_iand w (hb hby dpick_77) (pc' := 78) rfl ?_
              refine s_i2c w (hb hby dpick_78) (pc' := 79) rfl ?_
              exact w_ireturn w hEL hs hlk hret (narrow_ch (chr_nar _).1 (chr_nar _).2) (Or.inr (Or.inr (Or.inr (Or.inl rfl)))) (hb hby dpick_79) (by decide) (by decide) ⟨_, rfl, rfl, (chr_nar _)⟩
        · -- ¬ (mo = 1)
          refine s_iload_n w (hb hby dpick_53) rfl (pc' := 54) rfl ?_
          refine s_iconst w (hb hby dpick_54) (v := 4) rfl (pc' := 55) rfl ?_
          refine s_icmp_ge w (hb hby dpick_55) (by decide) (pc1 := 58) rfl (pc2 := 62) rfl (fun ct18 => ?_) (fun ct18 => ?_)
          · -- i < 4
            refine s_iload_n w (hb hby dpick_58) rfl (pc' := 59) rfl ?_
            refine s_goto w (hb hby dpick_59) (by decide) (pc' := 63) rfl ?_
            refine s_istore w #[.val (.int mo), .val (.int i), .val (.int x1), .val (.int x2), .val (.int pb), .val (.int pp), .val (.int ch), .val (.int x1)] (hb hby dpick_63) rfl (pc' := 65) rfl ?_
            refine s_iload w (hb hby dpick_65) rfl (pc' := 67) rfl ?_
            refine s_bipush w (hb hby dpick_67) (v := 8) rfl (pc' := 69) rfl ?_
            refine s_iload_n w (hb hby dpick_69) rfl (pc' := 70) rfl ?_
            refine s_iconst w (hb hby dpick_70) (v := 3) rfl (pc' := 71) rfl ?_
            refine s_iand w (hb hby dpick_71) (pc' := 72) rfl ?_
            refine s_imul w (hb hby dpick_72) (pc' := 73) rfl ?_
            refine s_iushr w (hb hby dpick_73) (pc' := 74) rfl ?_
            refine s_sipush w (hb hby dpick_74) (v := 255) rfl (pc' := 77) rfl ?_
            refine s_iand w (hb hby dpick_77) (pc' := 78) rfl ?_
            refine s_i2c w (hb hby dpick_78) (pc' := 79) rfl ?_
            exact w_ireturn w hEL hs hlk hret (narrow_ch (chr_nar _).1 (chr_nar _).2) (Or.inr (Or.inr (Or.inr (Or.inl rfl)))) (hb hby dpick_79) (by decide) (by decide) ⟨_, rfl, rfl, (chr_nar _)⟩
          · -- ¬ (i < 4)
            refine s_iload_n w (hb hby dpick_62) rfl (pc' := 63) rfl ?_
            refine s_istore w #[.val (.int mo), .val (.int i), .val (.int x1), .val (.int x2), .val (.int pb), .val (.int pp), .val (.int ch), .val (.int x2)] (hb hby dpick_63) rfl (pc' := 65) rfl ?_
            refine s_iload w (hb hby dpick_65) rfl (pc' := 67) rfl ?_
            refine s_bipush w (hb hby dpick_67) (v := 8) rfl (pc' := 69) rfl ?_
            refine s_iload_n w (hb hby dpick_69) rfl (pc' := 70) rfl ?_
            refine s_iconst w (hb hby dpick_70) (v := 3) rfl (pc' := 71) rfl ?_
            refine s_iand w (hb hby dpick_71) (pc' := 72) rfl ?_
            refine s_imul w (hb hby dpick_72) (pc' := 73) rfl ?_
            refine s_iushr w (hb hby dpick_73) (pc' := 74) rfl ?_
            refine s_sipush w (hb hby dpick_74) (v := 255) rfl (pc' := 77) rfl ?_
            refine s_iand w (hb hby dpick_77) (pc' := 78) rfl ?_
            refine s_i2c w (hb hby dpick_78) (pc' := 79) rfl ?_
            exact w_ireturn w hEL hs hlk hret (narrow_ch (chr_nar _).1 (chr_nar _).2) (Or.inr (Or.inr (Or.inr (Or.inl rfl)))) (hb hby dpick_79) (by decide) (by decide) ⟨_, rfl, rfl, (chr_nar _)⟩
  · -- pb = 0
    refine s_iload_n w (hb hby dpick_18) rfl (pc' := 19) rfl ?_
    refine s_if_ne w (hb hby dpick_19) (by decide) (pc1 := 22) rfl (pc2 := 33) rfl (fun ct19 => ?_) (fun ct19 => ?_)
    · -- mo = 0
      refine s_iload_n w (hb hby dpick_22) rfl (pc' := 23) rfl ?_
      refine s_bipush w (hb hby dpick_23) (v := 6) rfl (pc' := 25) rfl ?_
      refine s_icmp_ge w (hb hby dpick_25) (by decide) (pc1 := 28) rfl (pc2 := 33) rfl (fun ct20 => ?_) (fun ct20 => ?_)
      · -- i < 6
        refine s_iload_n w (hb hby dpick_28) rfl (pc' := 29) rfl ?_
        refine w_static w hEL (y := (⟨"com/example/benchwire/benchwire/cli/HelpAsksPinLaw", "longChar", "(I)C"⟩ : MethodName)) (hw _ (List.mem_of_getElem? (i := 4) rfl)) (hw _ (List.mem_of_getElem? (i := 5) rfl)) (hw _ (List.mem_of_getElem? (i := 2) rfl)) (hw _ (List.mem_of_getElem? (i := 6) rfl)) (by decide) (rm_lch G0 h i) all0 all0 (argsL := [.int i]) (rest := []) (lenOf (by decide +kernel : parseMethodDescriptor "(I)C" = some ⟨[.int], (some .char)⟩) rfl) rfl rfl (hb hby dpick_29) (by rw [hml]; rfl) (W := 0) (Nat.le_of_eq rfl) (by decide) (by decide) (by decide) (by decide) (pc' := 32) rfl fun u21 T h22 w K23 P24 => ?_
        obtain ⟨q0, rfl, rfl, lq0⟩ := P24
        show Run p e below _ T (mkF m 32 #[.val (.int mo), .val (.int i), .val (.int x1), .val (.int x2), .val (.int pb), .val (.int pp), .val (.int ch), .unset] [.int q0])
        exact w_ireturn w hEL hs hlk hret (narrow_ch lq0.1 lq0.2) (Or.inr (Or.inr (Or.inr (Or.inl rfl)))) (hb hby dpick_32) (by decide) (by decide) ⟨_, rfl, rfl, lq0⟩
      · -- ¬ (i < 6)
        refine s_iload_n w (hb hby dpick_33) rfl (pc' := 34) rfl ?_
        refine s_iconst w (hb hby dpick_34) (v := 1) rfl (pc' := 35) rfl ?_
        refine s_icmp_ne w (hb hby dpick_35) (by decide) (pc1 := 38) rfl (pc2 := 53) rfl (fun ct25 => ?_) (fun ct25 => ?_)
        · -- mo = 1
          refine s_iload_n w (hb hby dpick_38) rfl (pc' := 39) rfl ?_
          refine s_iconst w (hb hby dpick_39) (v := 2) rfl (pc' := 40) rfl ?_
          refine s_icmp_ge w (hb hby dpick_40) (by decide) (pc1 := 43) rfl (pc2 := 53) rfl (fun ct26 => ?_) (fun ct26 => ?_)
          · -- i < 2
            refine s_iload_n w (hb hby dpick_43) rfl (pc' := 44) rfl ?_
            refine s_if_ne w (hb hby dpick_44) (by decide) (pc1 := 47) rfl (pc2 := 50) rfl (fun ct27 => ?_) (fun ct27 => ?_)
            · -- i = 0
              refine s_bipush w (hb hby dpick_47) (v := 45) rfl (pc' := 49) rfl ?_
              exact w_ireturn w hEL hs hlk hret (narrow_ch (show Chr 45 by unfold Chr; decide).1 (show Chr 45 by unfold Chr; decide).2) (Or.inr (Or.inr (Or.inr (Or.inl rfl)))) (hb hby dpick_49) (by decide) (by decide) ⟨_, rfl, rfl, (show Chr 45 by unfold Chr; decide)⟩
            · -- ¬ (i = 0)
              refine s_bipush w (hb hby dpick_50) (v := 104) rfl (pc' := 52) rfl ?_
              exact w_ireturn w hEL hs hlk hret (narrow_ch (show Chr 104 by unfold Chr; decide).1 (show Chr 104 by unfold Chr; decide).2) (Or.inr (Or.inr (Or.inr (Or.inl rfl)))) (hb hby dpick_52) (by decide) (by decide) ⟨_, rfl, rfl, (show Chr 104 by unfold Chr; decide)⟩
          · -- ¬ (i < 2)
            refine s_iload_n w (hb hby dpick_53) rfl (pc' := 54) rfl ?_
            refine s_iconst w (hb hby dpick_54) (v := 4) rfl (pc' := 55) rfl ?_
            refine s_icmp_ge w (hb hby dpick_55) (by decide) (pc1 := 58) rfl (pc2 := 62) rfl (fun ct28 => ?_) (fun ct28 => ?_)
            · -- i < 4
              refine s_iload_n w (hb hby dpick_58) rfl (pc' := 59) rfl ?_
              refine s_goto w (hb hby dpick_59) (by decide) (pc' := 63) rfl ?_
              refine s_istore w #[.val (.int mo), .val (.int i), .val (.int x1), .val (.int x2), .val (.int pb), .val (.int pp), .val (.int ch), .val (.int x1)] (hb hby dpick_63) rfl (pc' := 65) rfl ?_
              refine s_iload w (hb hby dpick_65) rfl (pc' := 67) rfl ?_
              refine s_bipush w (hb hby dpick_67) (v := 8) rfl (pc' := 69) rfl ?_
              refine s_iload_n w (hb hby dpick_69) rfl (pc' := 70) rfl ?_
              refine s_iconst w (hb hby dpick_70) (v := 3) rfl (pc' := 71) rfl ?_
              refine s_iand w (hb hby dpick_71) (pc' := 72) rfl ?_
              refine s_imul w (hb hby dpick_72) (pc' := 73) rfl ?_
              refine s_iushr w (hb hby dpick_73) (pc' := 74) rfl ?_
              refine s_sipush w (hb hby dpick_74) (v := 255) rfl (pc' := 77) rfl ?_
              refine s_iand w (hb hby dpick_77) (pc' := 78) rfl ?_
              refine s_i2c w (hb hby dpick_78) (pc' := 79) rfl ?_
              exact w_ireturn w hEL hs hlk hret (narrow_ch (chr_nar _).1 (chr_nar _).2) (Or.inr (Or.inr (Or.inr (Or.inl rfl)))) (hb hby dpick_79) (by decide) (by decide) ⟨_, rfl, rfl, (chr_nar _)⟩
            · -- ¬ (i < 4)
              refine s_iload_n w (hb hby dpick_62) rfl (pc' := 63) rfl ?_
              refine s_istore w #[.val (.int mo), .val (.int i), .val (.int x1), .val (.int x2), .val (.int pb), .val (.int pp), .val (.int ch), .val (.int x2)] (hb hby dpick_63) rfl (pc' := 65) rfl ?_
              refine s_iload w (hb hby dpick_65) rfl (pc' := 67) rfl ?_
              refine s_bipush w (hb hby dpick_67) (v := 8) rfl (pc' := 69) rfl ?_
              refine s_iload_n w (hb hby dpick_69) rfl (pc' := 70) rfl ?_
              refine s_iconst w (hb hby dpick_70) (v := 3) rfl (pc' := 71) rfl ?_
              refine s_iand w (hb hby dpick_71) (pc' := 72) rfl ?_
              refine s_imul w (hb hby dpick_72) (pc' := 73) rfl ?_
              refine s_iushr w (hb hby dpick_73) (pc' := 74) rfl ?_
              refine s_sipush w (hb hby dpick_74) (v := 255) rfl (pc' := 77) rfl ?_
              refine s_iand w (hb hby dpick_77) (pc' := 78) rfl ?_
              refine s_i2c w (hb hby dpick_78) (pc' := 79) rfl ?_
              exact w_ireturn w hEL hs hlk hret (narrow_ch (chr_nar _).1 (chr_nar _).2) (Or.inr (Or.inr (Or.inr (Or.inl rfl)))) (hb hby dpick_79) (by decide) (by decide) ⟨_, rfl, rfl, (chr_nar _)⟩
        · -- ¬ (mo = 1)
          refine s_iload_n w (hb hby dpick_53) rfl (pc' := 54) rfl ?_
          refine s_iconst w (hb hby dpick_54) (v := 4) rfl (pc' := 55) rfl ?_
          refine s_icmp_ge w (hb hby dpick_55) (by decide) (pc1 := 58) rfl (pc2 := 62) rfl (fun ct29 => ?_) (fun ct29 => ?_)
          · -- i < 4
            refine s_iload_n w (hb hby dpick_58) rfl (pc' := 59) rfl ?_
            refine s_goto w (hb hby dpick_59) (by decide) (pc' := 63) rfl ?_
            refine s_istore w #[.val (.int mo), .val (.int i), .val (.int x1), .val (.int x2), .val (.int pb), .val (.int pp), .val (.int ch), .val (.int x1)] (hb hby dpick_63) rfl (pc' := 65) rfl ?_
            refine s_iload w (hb hby dpick_65) rfl (pc' := 67) rfl ?_
            refine s_bipush w (hb hby dpick_67) (v := 8) rfl (pc' := 69) rfl ?_
            refine s_iload_n w (hb hby dpick_69) rfl (pc' := 70) rfl ?_
            refine s_iconst w (hb hby dpick_70) (v := 3) rfl (pc' := 71) rfl ?_
            refine s_iand w (hb hby dpick_71) (pc' := 72) rfl ?_
            refine s_imul w (hb hby dpick_72) (pc' := 73) rfl ?_
            refine s_iushr w (hb hby dpick_73) (pc' := 74) rfl ?_
            refine s_sipush w (hb hby dpick_74) (v := 255) rfl (pc' := 77) rfl ?_
            refine s_iand w (hb hby dpick_77) (pc' := 78) rfl ?_
            refine s_i2c w (hb hby dpick_78) (pc' := 79) rfl ?_
            exact w_ireturn w hEL hs hlk hret (narrow_ch (chr_nar _).1 (chr_nar _).2) (Or.inr (Or.inr (Or.inr (Or.inl rfl)))) (hb hby dpick_79) (by decide) (by decide) ⟨_, rfl, rfl, (chr_nar _)⟩
          · -- ¬ (i < 4)
            refine s_iload_n w (hb hby dpick_62) rfl (pc' := 63) rfl ?_
            refine s_istore w #[.val (.int mo), .val (.int i), .val (.int x1), .val (.int x2), .val (.int pb), .val (.int pp), .val (.int ch), .val (.int x2)] (hb hby dpick_63) rfl (pc' := 65) rfl ?_
            refine s_iload w (hb hby dpick_65) rfl (pc' := 67) rfl ?_
            refine s_bipush w (hb hby dpick_67) (v := 8) rfl (pc' := 69) rfl ?_
            refine s_iload_n w (hb hby dpick_69) rfl (pc' := 70) rfl ?_
            refine s_iconst w (hb hby dpick_70) (v := 3) rfl (pc' := 71) rfl ?_
            refine s_iand w (hb hby dpick_71) (pc' := 72) rfl ?_
            refine s_imul w (hb hby dpick_72) (pc' := 73) rfl ?_
            refine s_iushr w (hb hby dpick_73) (pc' := 74) rfl ?_
            refine s_sipush w (hb hby dpick_74) (v := 255) rfl (pc' := 77) rfl ?_
            refine s_iand w (hb hby dpick_77) (pc' := 78) rfl ?_
            refine s_i2c w (hb hby dpick_78) (pc' := 79) rfl ?_
            exact w_ireturn w hEL hs hlk hret (narrow_ch (chr_nar _).1 (chr_nar _).2) (Or.inr (Or.inr (Or.inr (Or.inl rfl)))) (hb hby dpick_79) (by decide) (by decide) ⟨_, rfl, rfl, (chr_nar _)⟩
    · -- ¬ (mo = 0)
      refine s_iload_n w (hb hby dpick_33) rfl (pc' := 34) rfl ?_
      refine s_iconst w (hb hby dpick_34) (v := 1) rfl (pc' := 35) rfl ?_
      refine s_icmp_ne w (hb hby dpick_35) (by decide) (pc1 := 38) rfl (pc2 := 53) rfl (fun ct30 => ?_) (fun ct30 => ?_)
      · -- mo = 1
        refine s_iload_n w (hb hby dpick_38) rfl (pc' := 39) rfl ?_
        refine s_iconst w (hb hby dpick_39) (v := 2) rfl (pc' := 40) rfl ?_
        refine s_icmp_ge w (hb hby dpick_40) (by decide) (pc1 := 43) rfl (pc2 := 53) rfl (fun ct31 => ?_) (fun ct31 => ?_)
        · -- i < 2
          refine s_iload_n w (hb hby dpick_43) rfl (pc' := 44) rfl ?_
          refine s_if_ne w (hb hby dpick_44) (by decide) (pc1 := 47) rfl (pc2 := 50) rfl (fun ct32 => ?_) (fun ct32 => ?_)
          · -- i = 0
            refine s_bipush w (hb hby dpick_47) (v := 45) rfl (pc' := 49) rfl ?_
            exact w_ireturn w hEL hs hlk hret (narrow_ch (show Chr 45 by unfold Chr; decide).1 (show Chr 45 by unfold Chr; decide).2) (Or.inr (Or.inr (Or.inr (Or.inl rfl)))) (hb hby dpick_49) (by decide) (by decide) ⟨_, rfl, rfl, (show Chr 45 by unfold Chr; decide)⟩
          · -- ¬ (i = 0)
            refine s_bipush w (hb hby dpick_50) (v := 104) rfl (pc' := 52) rfl ?_
            exact w_ireturn w hEL hs hlk hret (narrow_ch (show Chr 104 by unfold Chr; decide).1 (show Chr 104 by unfold Chr; decide).2) (Or.inr (Or.inr (Or.inr (Or.inl rfl)))) (hb hby dpick_52) (by decide) (by decide) ⟨_, rfl, rfl, (show Chr 104 by unfold Chr; decide)⟩
        · -- ¬ (i < 2)
          refine s_iload_n w (hb hby dpick_53) rfl (pc' := 54) rfl ?_
          refine s_iconst w (hb hby dpick_54) (v := 4) rfl (pc' := 55) rfl ?_
          refine s_icmp_ge w (hb hby dpick_55) (by decide) (pc1 := 58) rfl (pc2 := 62) rfl (fun ct33 => ?_) (fun ct33 => ?_)
          · -- i < 4
            refine s_iload_n w (hb hby dpick_58) rfl (pc' := 59) rfl ?_
            refine s_goto w (hb hby dpick_59) (by decide) (pc' := 63) rfl ?_
            refine s_istore w #[.val (.int mo), .val (.int i), .val (.int x1), .val (.int x2), .val (.int pb), .val (.int pp), .val (.int ch), .val (.int x1)] (hb hby dpick_63) rfl (pc' := 65) rfl ?_
            refine s_iload w (hb hby dpick_65) rfl (pc' := 67) rfl ?_
            refine s_bipush w (hb hby dpick_67) (v := 8) rfl (pc' := 69) rfl ?_
            refine s_iload_n w (hb hby dpick_69) rfl (pc' := 70) rfl ?_
            refine s_iconst w (hb hby dpick_70) (v := 3) rfl (pc' := 71) rfl ?_
            refine s_iand w (hb hby dpick_71) (pc' := 72) rfl ?_
            refine s_imul w (hb hby dpick_72) (pc' := 73) rfl ?_
            refine s_iushr w (hb hby dpick_73) (pc' := 74) rfl ?_
            refine s_sipush w (hb hby dpick_74) (v := 255) rfl (pc' := 77) rfl ?_
            refine s_iand w (hb hby dpick_77) (pc' := 78) rfl ?_
            refine s_i2c w (hb hby dpick_78) (pc' := 79) rfl ?_
            exact w_ireturn w hEL hs hlk hret (narrow_ch (chr_nar _).1 (chr_nar _).2) (Or.inr (Or.inr (Or.inr (Or.inl rfl)))) (hb hby dpick_79) (by decide) (by decide) ⟨_, rfl, rfl, (chr_nar _)⟩
          · -- ¬ (i < 4)
            refine s_iload_n w (hb hby dpick_62) rfl (pc' := 63) rfl ?_
            refine s_istore w #[.val (.int mo), .val (.int i), .val (.int x1), .val (.int x2), .val (.int pb), .val (.int pp), .val (.int ch), .val (.int x2)] (hb hby dpick_63) rfl (pc' := 65) rfl ?_
            refine s_iload w (hb hby dpick_65) rfl (pc' := 67) rfl ?_
            refine s_bipush w (hb hby dpick_67) (v := 8) rfl (pc' := 69) rfl ?_
            refine s_iload_n w (hb hby dpick_69) rfl (pc' := 70) rfl ?_
            refine s_iconst w (hb hby dpick_70) (v := 3) rfl (pc' := 71) rfl ?_
            refine s_iand w (hb hby dpick_71) (pc' := 72) rfl ?_
            refine s_imul w (hb hby dpick_72) (pc' := 73) rfl ?_
            refine s_iushr w (hb hby dpick_73) (pc' := 74) rfl ?_
            refine s_sipush w (hb hby dpick_74) (v := 255) rfl (pc' := 77) rfl ?_
            refine s_iand w (hb hby dpick_77) (pc' := 78) rfl ?_
            refine s_i2c w (hb hby dpick_78) (pc' := 79) rfl ?_
            exact w_ireturn w hEL hs hlk hret (narrow_ch (chr_nar _).1 (chr_nar _).2) (Or.inr (Or.inr (Or.inr (Or.inl rfl)))) (hb hby dpick_79) (by decide) (by decide) ⟨_, rfl, rfl, (chr_nar _)⟩
      · -- ¬ (mo = 1)
        refine s_iload_n w (hb hby dpick_53) rfl (pc' := 54) rfl ?_
        refine s_iconst w (hb hby dpick_54) (v := 4) rfl (pc' := 55) rfl ?_
        refine s_icmp_ge w (hb hby dpick_55) (by decide) (pc1 := 58) rfl (pc2 := 62) rfl (fun ct34 => ?_) (fun ct34 => ?_)
        · -- i < 4
          refine s_iload_n w (hb hby dpick_58) rfl (pc' := 59) rfl ?_
          refine s_goto w (hb hby dpick_59) (by decide) (pc' := 63) rfl ?_
          refine s_istore w #[.val (.int mo), .val (.int i), .val (.int x1), .val (.int x2), .val (.int pb), .val (.int pp), .val (.int ch), .val (.int x1)] (hb hby dpick_63) rfl (pc' := 65) rfl ?_
          refine s_iload w (hb hby dpick_65) rfl (pc' := 67) rfl ?_
          refine s_bipush w (hb hby dpick_67) (v := 8) rfl (pc' := 69) rfl ?_
          refine s_iload_n w (hb hby dpick_69) rfl (pc' := 70) rfl ?_
          refine s_iconst w (hb hby dpick_70) (v := 3) rfl (pc' := 71) rfl ?_
          refine s_iand w (hb hby dpick_71) (pc' := 72) rfl ?_
          refine s_imul w (hb hby dpick_72) (pc' := 73) rfl ?_
          refine s_iushr w (hb hby dpick_73) (pc' := 74) rfl ?_
          refine s_sipush w (hb hby dpick_74) (v := 255) rfl (pc' := 77) rfl ?_
          refine s_iand w (hb hby dpick_77) (pc' := 78) rfl ?_
          refine s_i2c w (hb hby dpick_78) (pc' := 79) rfl ?_
          exact w_ireturn w hEL hs hlk hret (narrow_ch (chr_nar _).1 (chr_nar _).2) (Or.inr (Or.inr (Or.inr (Or.inl rfl)))) (hb hby dpick_79) (by decide) (by decide) ⟨_, rfl, rfl, (chr_nar _)⟩
        · -- ¬ (i < 4)
          refine s_iload_n w (hb hby dpick_62) rfl (pc' := 63) rfl ?_
          refine s_istore w #[.val (.int mo), .val (.int i), .val (.int x1), .val (.int x2), .val (.int pb), .val (.int pp), .val (.int ch), .val (.int x2)] (hb hby dpick_63) rfl (pc' := 65) rfl ?_
          refine s_iload w (hb hby dpick_65) rfl (pc' := 67) rfl ?_
          refine s_bipush w (hb hby dpick_67) (v := 8) rfl (pc' := 69) rfl ?_
          refine s_iload_n w (hb hby dpick_69) rfl (pc' := 70) rfl ?_
          refine s_iconst w (hb hby dpick_70) (v := 3) rfl (pc' := 71) rfl ?_
          refine s_iand w (hb hby dpick_71) (pc' := 72) rfl ?_
          refine s_imul w (hb hby dpick_72) (pc' := 73) rfl ?_
          refine s_iushr w (hb hby dpick_73) (pc' := 74) rfl ?_
          refine s_sipush w (hb hby dpick_74) (v := 255) rfl (pc' := 77) rfl ?_
          refine s_iand w (hb hby dpick_77) (pc' := 78) rfl ?_
          refine s_i2c w (hb hby dpick_78) (pc' := 79) rfl ?_
          exact w_ireturn w hEL hs hlk hret (narrow_ch (chr_nar _).1 (chr_nar _).2) (Or.inr (Or.inr (Or.inr (Or.inl rfl)))) (hb hby dpick_79) (by decide) (by decide) ⟨_, rfl, rfl, (chr_nar _)⟩
def strL (n c0 c1 c2 c3 c4 c5 c6 : Int32) : List Int32 := if n = 0 then [] else if n = 1 then [c0] else if n = 2 then [c0, c1] else if n = 3 then [c0, c1, c2] else if n = 4 then [c0, c1, c2, c3] else if n = 5 then [c0, c1, c2, c3, c4] else if n = 6 then [c0, c1, c2, c3, c4, c5] else [c0, c1, c2, c3, c4, c5, c6]
theorem dmake_0 : decode method_5_code 0 = .ok (.iload_n 0, 1) := by decide +kernel
theorem dmake_1 : decode method_5_code 1 = .ok (.ifCond .ne 14, 3) := by decide +kernel
theorem dmake_4 : decode method_5_code 4 = .ok (.new 28, 3) := by decide +kernel
theorem dmake_7 : decode method_5_code 7 = .ok (.dup, 1) := by decide +kernel
theorem dmake_8 : decode method_5_code 8 = .ok (.iconst 0, 1) := by decide +kernel
theorem dmake_9 : decode method_5_code 9 = .ok (.newarray .char, 2) := by decide +kernel
theorem dmake_11 : decode method_5_code 11 = .ok (.invokespecial 30, 3) := by decide +kernel
theorem dmake_14 : decode method_5_code 14 = .ok (.areturn, 1) := by decide +kernel
theorem dmake_15 : decode method_5_code 15 = .ok (.iload_n 0, 1) := by decide +kernel
theorem dmake_16 : decode method_5_code 16 = .ok (.iconst 1, 1) := by decide +kernel
theorem dmake_17 : decode method_5_code 17 = .ok (.if_icmp .ne 18, 3) := by decide +kernel
theorem dmake_20 : decode method_5_code 20 = .ok (.new 28, 3) := by decide +kernel
theorem dmake_23 : decode method_5_code 23 = .ok (.dup, 1) := by decide +kernel
theorem dmake_24 : decode method_5_code 24 = .ok (.iconst 1, 1) := by decide +kernel
theorem dmake_25 : decode method_5_code 25 = .ok (.newarray .char, 2) := by decide +kernel
theorem dmake_27 : decode method_5_code 27 = .ok (.dup, 1) := by decide +kernel
theorem dmake_28 : decode method_5_code 28 = .ok (.iconst 0, 1) := by decide +kernel
theorem dmake_29 : decode method_5_code 29 = .ok (.iload_n 1, 1) := by decide +kernel
theorem dmake_30 : decode method_5_code 30 = .ok (.castore, 1) := by decide +kernel
theorem dmake_31 : decode method_5_code 31 = .ok (.invokespecial 30, 3) := by decide +kernel
theorem dmake_34 : decode method_5_code 34 = .ok (.areturn, 1) := by decide +kernel
theorem dmake_35 : decode method_5_code 35 = .ok (.iload_n 0, 1) := by decide +kernel
theorem dmake_36 : decode method_5_code 36 = .ok (.iconst 2, 1) := by decide +kernel
theorem dmake_37 : decode method_5_code 37 = .ok (.if_icmp .ne 22, 3) := by decide +kernel
theorem dmake_40 : decode method_5_code 40 = .ok (.new 28, 3) := by decide +kernel
theorem dmake_43 : decode method_5_code 43 = .ok (.dup, 1) := by decide +kernel
theorem dmake_44 : decode method_5_code 44 = .ok (.iconst 2, 1) := by decide +kernel
theorem dmake_45 : decode method_5_code 45 = .ok (.newarray .char, 2) := by decide +kernel
theorem dmake_47 : decode method_5_code 47 = .ok (.dup, 1) := by decide +kernel
theorem dmake_48 : decode method_5_code 48 = .ok (.iconst 0, 1) := by decide +kernel
theorem dmake_49 : decode method_5_code 49 = .ok (.iload_n 1, 1) := by decide +kernel
theorem dmake_50 : decode method_5_code 50 = .ok (.castore, 1) := by decide +kernel
theorem dmake_51 : decode method_5_code 51 = .ok (.dup, 1) := by decide +kernel
theorem dmake_52 : decode method_5_code 52 = .ok (.iconst 1, 1) := by decide +kernel
theorem dmake_53 : decode method_5_code 53 = .ok (.iload_n 2, 1) := by decide +kernel
theorem dmake_54 : decode method_5_code 54 = .ok (.castore, 1) := by decide +kernel
theorem dmake_55 : decode method_5_code 55 = .ok (.invokespecial 30, 3) := by decide +kernel
theorem dmake_58 : decode method_5_code 58 = .ok (.areturn, 1) := by decide +kernel
theorem dmake_59 : decode method_5_code 59 = .ok (.iload_n 0, 1) := by decide +kernel
theorem dmake_60 : decode method_5_code 60 = .ok (.iconst 3, 1) := by decide +kernel
theorem dmake_61 : decode method_5_code 61 = .ok (.if_icmp .ne 26, 3) := by decide +kernel
theorem dmake_64 : decode method_5_code 64 = .ok (.new 28, 3) := by decide +kernel
theorem dmake_67 : decode method_5_code 67 = .ok (.dup, 1) := by decide +kernel
theorem dmake_68 : decode method_5_code 68 = .ok (.iconst 3, 1) := by decide +kernel
theorem dmake_69 : decode method_5_code 69 = .ok (.newarray .char, 2) := by decide +kernel
theorem dmake_71 : decode method_5_code 71 = .ok (.dup, 1) := by decide +kernel
theorem dmake_72 : decode method_5_code 72 = .ok (.iconst 0, 1) := by decide +kernel
theorem dmake_73 : decode method_5_code 73 = .ok (.iload_n 1, 1) := by decide +kernel
theorem dmake_74 : decode method_5_code 74 = .ok (.castore, 1) := by decide +kernel
theorem dmake_75 : decode method_5_code 75 = .ok (.dup, 1) := by decide +kernel
theorem dmake_76 : decode method_5_code 76 = .ok (.iconst 1, 1) := by decide +kernel
theorem dmake_77 : decode method_5_code 77 = .ok (.iload_n 2, 1) := by decide +kernel
theorem dmake_78 : decode method_5_code 78 = .ok (.castore, 1) := by decide +kernel
theorem dmake_79 : decode method_5_code 79 = .ok (.dup, 1) := by decide +kernel
theorem dmake_80 : decode method_5_code 80 = .ok (.iconst 2, 1) := by decide +kernel
theorem dmake_81 : decode method_5_code 81 = .ok (.iload_n 3, 1) := by decide +kernel
theorem dmake_82 : decode method_5_code 82 = .ok (.castore, 1) := by decide +kernel
theorem dmake_83 : decode method_5_code 83 = .ok (.invokespecial 30, 3) := by decide +kernel
theorem dmake_86 : decode method_5_code 86 = .ok (.areturn, 1) := by decide +kernel
theorem dmake_87 : decode method_5_code 87 = .ok (.iload_n 0, 1) := by decide +kernel
theorem dmake_88 : decode method_5_code 88 = .ok (.iconst 4, 1) := by decide +kernel
theorem dmake_89 : decode method_5_code 89 = .ok (.if_icmp .ne 31, 3) := by decide +kernel
theorem dmake_92 : decode method_5_code 92 = .ok (.new 28, 3) := by decide +kernel
theorem dmake_95 : decode method_5_code 95 = .ok (.dup, 1) := by decide +kernel
theorem dmake_96 : decode method_5_code 96 = .ok (.iconst 4, 1) := by decide +kernel
theorem dmake_97 : decode method_5_code 97 = .ok (.newarray .char, 2) := by decide +kernel
theorem dmake_99 : decode method_5_code 99 = .ok (.dup, 1) := by decide +kernel
theorem dmake_100 : decode method_5_code 100 = .ok (.iconst 0, 1) := by decide +kernel
theorem dmake_101 : decode method_5_code 101 = .ok (.iload_n 1, 1) := by decide +kernel
theorem dmake_102 : decode method_5_code 102 = .ok (.castore, 1) := by decide +kernel
theorem dmake_103 : decode method_5_code 103 = .ok (.dup, 1) := by decide +kernel
theorem dmake_104 : decode method_5_code 104 = .ok (.iconst 1, 1) := by decide +kernel
theorem dmake_105 : decode method_5_code 105 = .ok (.iload_n 2, 1) := by decide +kernel
theorem dmake_106 : decode method_5_code 106 = .ok (.castore, 1) := by decide +kernel
theorem dmake_107 : decode method_5_code 107 = .ok (.dup, 1) := by decide +kernel
theorem dmake_108 : decode method_5_code 108 = .ok (.iconst 2, 1) := by decide +kernel
theorem dmake_109 : decode method_5_code 109 = .ok (.iload_n 3, 1) := by decide +kernel
theorem dmake_110 : decode method_5_code 110 = .ok (.castore, 1) := by decide +kernel
theorem dmake_111 : decode method_5_code 111 = .ok (.dup, 1) := by decide +kernel
theorem dmake_112 : decode method_5_code 112 = .ok (.iconst 3, 1) := by decide +kernel
theorem dmake_113 : decode method_5_code 113 = .ok (.iload 4, 2) := by decide +kernel
theorem dmake_115 : decode method_5_code 115 = .ok (.castore, 1) := by decide +kernel
theorem dmake_116 : decode method_5_code 116 = .ok (.invokespecial 30, 3) := by decide +kernel
theorem dmake_119 : decode method_5_code 119 = .ok (.areturn, 1) := by decide +kernel
theorem dmake_120 : decode method_5_code 120 = .ok (.iload_n 0, 1) := by decide +kernel
theorem dmake_121 : decode method_5_code 121 = .ok (.iconst 5, 1) := by decide +kernel
theorem dmake_122 : decode method_5_code 122 = .ok (.if_icmp .ne 36, 3) := by decide +kernel
theorem dmake_125 : decode method_5_code 125 = .ok (.new 28, 3) := by decide +kernel
theorem dmake_128 : decode method_5_code 128 = .ok (.dup, 1) := by decide +kernel
theorem dmake_129 : decode method_5_code 129 = .ok (.iconst 5, 1) := by decide +kernel
theorem dmake_130 : decode method_5_code 130 = .ok (.newarray .char, 2) := by decide +kernel
theorem dmake_132 : decode method_5_code 132 = .ok (.dup, 1) := by decide +kernel
theorem dmake_133 : decode method_5_code 133 = .ok (.iconst 0, 1) := by decide +kernel
theorem dmake_134 : decode method_5_code 134 = .ok (.iload_n 1, 1) := by decide +kernel
theorem dmake_135 : decode method_5_code 135 = .ok (.castore, 1) := by decide +kernel
theorem dmake_136 : decode method_5_code 136 = .ok (.dup, 1) := by decide +kernel
theorem dmake_137 : decode method_5_code 137 = .ok (.iconst 1, 1) := by decide +kernel
theorem dmake_138 : decode method_5_code 138 = .ok (.iload_n 2, 1) := by decide +kernel
theorem dmake_139 : decode method_5_code 139 = .ok (.castore, 1) := by decide +kernel
theorem dmake_140 : decode method_5_code 140 = .ok (.dup, 1) := by decide +kernel
theorem dmake_141 : decode method_5_code 141 = .ok (.iconst 2, 1) := by decide +kernel
theorem dmake_142 : decode method_5_code 142 = .ok (.iload_n 3, 1) := by decide +kernel
theorem dmake_143 : decode method_5_code 143 = .ok (.castore, 1) := by decide +kernel
theorem dmake_144 : decode method_5_code 144 = .ok (.dup, 1) := by decide +kernel
theorem dmake_145 : decode method_5_code 145 = .ok (.iconst 3, 1) := by decide +kernel
theorem dmake_146 : decode method_5_code 146 = .ok (.iload 4, 2) := by decide +kernel
theorem dmake_148 : decode method_5_code 148 = .ok (.castore, 1) := by decide +kernel
theorem dmake_149 : decode method_5_code 149 = .ok (.dup, 1) := by decide +kernel
theorem dmake_150 : decode method_5_code 150 = .ok (.iconst 4, 1) := by decide +kernel
theorem dmake_151 : decode method_5_code 151 = .ok (.iload 5, 2) := by decide +kernel
theorem dmake_153 : decode method_5_code 153 = .ok (.castore, 1) := by decide +kernel
theorem dmake_154 : decode method_5_code 154 = .ok (.invokespecial 30, 3) := by decide +kernel
theorem dmake_157 : decode method_5_code 157 = .ok (.areturn, 1) := by decide +kernel
theorem dmake_158 : decode method_5_code 158 = .ok (.iload_n 0, 1) := by decide +kernel
theorem dmake_159 : decode method_5_code 159 = .ok (.bipush 6, 2) := by decide +kernel
theorem dmake_161 : decode method_5_code 161 = .ok (.if_icmp .ne 42, 3) := by decide +kernel
theorem dmake_164 : decode method_5_code 164 = .ok (.new 28, 3) := by decide +kernel
theorem dmake_167 : decode method_5_code 167 = .ok (.dup, 1) := by decide +kernel
theorem dmake_168 : decode method_5_code 168 = .ok (.bipush 6, 2) := by decide +kernel
theorem dmake_170 : decode method_5_code 170 = .ok (.newarray .char, 2) := by decide +kernel
theorem dmake_172 : decode method_5_code 172 = .ok (.dup, 1) := by decide +kernel
theorem dmake_173 : decode method_5_code 173 = .ok (.iconst 0, 1) := by decide +kernel
theorem dmake_174 : decode method_5_code 174 = .ok (.iload_n 1, 1) := by decide +kernel
theorem dmake_175 : decode method_5_code 175 = .ok (.castore, 1) := by decide +kernel
theorem dmake_176 : decode method_5_code 176 = .ok (.dup, 1) := by decide +kernel
theorem dmake_177 : decode method_5_code 177 = .ok (.iconst 1, 1) := by decide +kernel
theorem dmake_178 : decode method_5_code 178 = .ok (.iload_n 2, 1) := by decide +kernel
theorem dmake_179 : decode method_5_code 179 = .ok (.castore, 1) := by decide +kernel
theorem dmake_180 : decode method_5_code 180 = .ok (.dup, 1) := by decide +kernel
theorem dmake_181 : decode method_5_code 181 = .ok (.iconst 2, 1) := by decide +kernel
theorem dmake_182 : decode method_5_code 182 = .ok (.iload_n 3, 1) := by decide +kernel
theorem dmake_183 : decode method_5_code 183 = .ok (.castore, 1) := by decide +kernel
theorem dmake_184 : decode method_5_code 184 = .ok (.dup, 1) := by decide +kernel
theorem dmake_185 : decode method_5_code 185 = .ok (.iconst 3, 1) := by decide +kernel
theorem dmake_186 : decode method_5_code 186 = .ok (.iload 4, 2) := by decide +kernel
theorem dmake_188 : decode method_5_code 188 = .ok (.castore, 1) := by decide +kernel
theorem dmake_189 : decode method_5_code 189 = .ok (.dup, 1) := by decide +kernel
theorem dmake_190 : decode method_5_code 190 = .ok (.iconst 4, 1) := by decide +kernel
theorem dmake_191 : decode method_5_code 191 = .ok (.iload 5, 2) := by decide +kernel
theorem dmake_193 : decode method_5_code 193 = .ok (.castore, 1) := by decide +kernel
theorem dmake_194 : decode method_5_code 194 = .ok (.dup, 1) := by decide +kernel
theorem dmake_195 : decode method_5_code 195 = .ok (.iconst 5, 1) := by decide +kernel
theorem dmake_196 : decode method_5_code 196 = .ok (.iload 6, 2) := by decide +kernel
theorem dmake_198 : decode method_5_code 198 = .ok (.castore, 1) := by decide +kernel
theorem dmake_199 : decode method_5_code 199 = .ok (.invokespecial 30, 3) := by decide +kernel
theorem dmake_202 : decode method_5_code 202 = .ok (.areturn, 1) := by decide +kernel
theorem dmake_203 : decode method_5_code 203 = .ok (.new 28, 3) := by decide +kernel
theorem dmake_206 : decode method_5_code 206 = .ok (.dup, 1) := by decide +kernel
theorem dmake_207 : decode method_5_code 207 = .ok (.bipush 7, 2) := by decide +kernel
theorem dmake_209 : decode method_5_code 209 = .ok (.newarray .char, 2) := by decide +kernel
theorem dmake_211 : decode method_5_code 211 = .ok (.dup, 1) := by decide +kernel
theorem dmake_212 : decode method_5_code 212 = .ok (.iconst 0, 1) := by decide +kernel
theorem dmake_213 : decode method_5_code 213 = .ok (.iload_n 1, 1) := by decide +kernel
theorem dmake_214 : decode method_5_code 214 = .ok (.castore, 1) := by decide +kernel
theorem dmake_215 : decode method_5_code 215 = .ok (.dup, 1) := by decide +kernel
theorem dmake_216 : decode method_5_code 216 = .ok (.iconst 1, 1) := by decide +kernel
theorem dmake_217 : decode method_5_code 217 = .ok (.iload_n 2, 1) := by decide +kernel
theorem dmake_218 : decode method_5_code 218 = .ok (.castore, 1) := by decide +kernel
theorem dmake_219 : decode method_5_code 219 = .ok (.dup, 1) := by decide +kernel
theorem dmake_220 : decode method_5_code 220 = .ok (.iconst 2, 1) := by decide +kernel
theorem dmake_221 : decode method_5_code 221 = .ok (.iload_n 3, 1) := by decide +kernel
theorem dmake_222 : decode method_5_code 222 = .ok (.castore, 1) := by decide +kernel
theorem dmake_223 : decode method_5_code 223 = .ok (.dup, 1) := by decide +kernel
theorem dmake_224 : decode method_5_code 224 = .ok (.iconst 3, 1) := by decide +kernel
theorem dmake_225 : decode method_5_code 225 = .ok (.iload 4, 2) := by decide +kernel
theorem dmake_227 : decode method_5_code 227 = .ok (.castore, 1) := by decide +kernel
theorem dmake_228 : decode method_5_code 228 = .ok (.dup, 1) := by decide +kernel
theorem dmake_229 : decode method_5_code 229 = .ok (.iconst 4, 1) := by decide +kernel
theorem dmake_230 : decode method_5_code 230 = .ok (.iload 5, 2) := by decide +kernel
theorem dmake_232 : decode method_5_code 232 = .ok (.castore, 1) := by decide +kernel
theorem dmake_233 : decode method_5_code 233 = .ok (.dup, 1) := by decide +kernel
theorem dmake_234 : decode method_5_code 234 = .ok (.iconst 5, 1) := by decide +kernel
theorem dmake_235 : decode method_5_code 235 = .ok (.iload 6, 2) := by decide +kernel
theorem dmake_237 : decode method_5_code 237 = .ok (.castore, 1) := by decide +kernel
theorem dmake_238 : decode method_5_code 238 = .ok (.dup, 1) := by decide +kernel
theorem dmake_239 : decode method_5_code 239 = .ok (.bipush 6, 2) := by decide +kernel
theorem dmake_241 : decode method_5_code 241 = .ok (.iload 7, 2) := by decide +kernel
theorem dmake_243 : decode method_5_code 243 = .ok (.castore, 1) := by decide +kernel
theorem dmake_244 : decode method_5_code 244 = .ok (.invokespecial 30, 3) := by decide +kernel
theorem dmake_247 : decode method_5_code 247 = .ok (.areturn, 1) := by decide +kernel
theorem ef_make (m : MethodId) (n : Int32) (c0 : Int32) (c1 : Int32) (c2 : Int32) (c3 : Int32) (c4 : Int32) (c5 : Int32) (c6 : Int32) : entryFrame m #[.int n, .int c0, .int c1, .int c2, .int c3, .int c4, .int c5, .int c6] 8 = mkF m 0 #[.val (.int n), .val (.int c0), .val (.int c1), .val (.int c2), .val (.int c3), .val (.int c4), .val (.int c5), .val (.int c6)] [] := by first | (simp [entryFrame, mkF, argsToLocals, Value.category]; done) | rfl
set_option maxRecDepth 65536 in
set_option maxHeartbeats 40000000 in
theorem rm_make {l : Launch} {Z : State} {a0 : Array Value} {zc : Int32}  (G : Gl Z a0 zc ) (h : Heap) (n : Int32) (c0 : Int32) (c1 : Int32) (c2 : Int32) (c3 : Int32) (c4 : Int32) (c5 : Int32) (c6 : Int32) (lc0 : Chr c0) (lc1 : Chr c1) (lc2 : Chr c2) (lc3 : Chr c3) (lc4 : Chr c4) (lc5 : Chr c5) (lc6 : Chr c6) :
    Met l Z consts_1 (⟨"com/example/benchwire/benchwire/cli/HelpAsksPinLaw", "make", "(ICCCCCCC)Ljava/lang/String;"⟩ : MethodName) method_5_code 8 (some (.object "java/lang/String")) ({ frames := 6, cells := 6, slots := 35, locals := 88 } : Room) #[.int n, .int c0, .int c1, .int c2, .int c3, .int c4, .int c5, .int c6] h [] [] (fun v h' => ∃ x, v = some (.ref x) ∧ Str Z h' x (strL n c0 c1 c2 c3 c4 c5 c6)) := by
  have G0 := G
  obtain ⟨hw, hEL, SC, hz, SA, SH, SL⟩ := G
  have hw1 : ∀ d ∈ StrChars.Road.words, d.before a0 Z = true := fun d q => hw d (sub1 d q)
  have hwA : ∀ d ∈ Bundle.stringAtoms, d.before a0 Z = true := fun d q => hw d (subA d q)
  have hw2 : ∀ d ∈ wordsS, d.before a0 Z = true := fun d q => hw d (sub2 d q)
  have hwE : ∀ d ∈ StrChars.Road.wordsEq, d.before a0 Z = true := fun d q => hw d (subE d q)
  refine Met.of (plainFor_of_name pn_2) ?_
  intro p e s m below meth c T hnm hret hlk hby hml hs w
  have hZ0 := w.old
  refine Run.cast (ef_make m n c0 c1 c2 c3 c4 c5 c6) ?_
  refine s_iload_n w (hb hby dmake_0) rfl (pc' := 1) rfl ?_
  refine s_if_ne w (hb hby dmake_1) (by decide) (pc1 := 4) rfl (pc2 := 15) rfl (fun ct1 => ?_) (fun ct1 => ?_)
  · -- n = 0
    refine w_new w (hw _ (List.mem_of_getElem? (i := 10) rfl)) (hw _ (List.mem_of_getElem? (i := 11) rfl)) (hw _ (List.mem_of_getElem? (i := 12) rfl)) (hb hby dmake_4) (pc' := 7) rfl (by decide) (by decide) fun T h2 x3 w E4 q5 r6 A7 D8 => ?_
    have F_value_x3 : Fld Z h2 x3 "java/lang/String" "value" "[B" (.null) := D8 (Or.inr (hw _ (List.mem_of_getElem? (i := 26) rfl))) (ty := (.array .byte)) (by decide)
    have F_coder_x3 : Fld Z h2 x3 "java/lang/String" "coder" "B" (.int 0) := D8 (Or.inr (hw _ (List.mem_of_getElem? (i := 27) rfl))) (ty := .byte) (by decide)
    refine s_dup w (hb hby dmake_7) rfl (pc' := 8) rfl ?_
    refine s_iconst w (hb hby dmake_8) (v := 0) rfl (pc' := 9) rfl ?_
    refine w_newP w (hw _ (List.mem_of_getElem? (i := 13) rfl)) rfl rfl (hb hby dmake_9) (by decide) (n := 0) (by decide) (by decide) (pc' := 11) rfl (by decide) (by decide) fun T h9 x10 k11 w E12 q13 r14 V15 => ?_
    refine w_strInit w hEL hmem hw1 hw2 (hw _ (List.mem_of_getElem? (i := 14) rfl)) (hw _ (List.mem_of_getElem? (i := 15) rfl)) (cs := []) (n := 0) (A7.ext E12) (F_value_x3.ext E12) (F_coder_x3.ext E12) (show Arv Z h9 x10 k11 .char 0 (([] : List Int32).map Value.int) (.int 0) from V15) SC hz rfl rfl (by decide) (by intro c q; cases q) (List.mem_of_getElem? (i := 1) rfl) (Or.inr r6) (Nat.le_trans hZ0.1 r6) (hb hby dmake_11) (by rw [hml]; rfl) (W := 1) (Nat.le_of_eq rfl) (by decide) (by decide) (by decide) (by decide) (pc' := 14) rfl fun T h16 w K17 F18 => ?_
    have E19 := Ext.kp (Ext.tr E4 E12) K17 (allS q5 all0)
    refine w_areturn w hEL hs hlk hret rfl rfl (hb hby dmake_14) (by decide) (by decide) ⟨x3, rfl, ?_⟩
    have e : strL n c0 c1 c2 c3 c4 c5 c6 = [] := by simp [strL, ct1]
    rw [e]; exact F18
  · -- ¬ (n = 0)
    refine s_iload_n w (hb hby dmake_15) rfl (pc' := 16) rfl ?_
    refine s_iconst w (hb hby dmake_16) (v := 1) rfl (pc' := 17) rfl ?_
    refine s_icmp_ne w (hb hby dmake_17) (by decide) (pc1 := 20) rfl (pc2 := 35) rfl (fun ct20 => ?_) (fun ct20 => ?_)
    · -- n = 1
      refine w_new w (hw _ (List.mem_of_getElem? (i := 10) rfl)) (hw _ (List.mem_of_getElem? (i := 11) rfl)) (hw _ (List.mem_of_getElem? (i := 12) rfl)) (hb hby dmake_20) (pc' := 23) rfl (by decide) (by decide) fun T h21 x22 w E23 q24 r25 A26 D27 => ?_
      have F_value_x22 : Fld Z h21 x22 "java/lang/String" "value" "[B" (.null) := D27 (Or.inr (hw _ (List.mem_of_getElem? (i := 26) rfl))) (ty := (.array .byte)) (by decide)
      have F_coder_x22 : Fld Z h21 x22 "java/lang/String" "coder" "B" (.int 0) := D27 (Or.inr (hw _ (List.mem_of_getElem? (i := 27) rfl))) (ty := .byte) (by decide)
      refine s_dup w (hb hby dmake_23) rfl (pc' := 24) rfl ?_
      refine s_iconst w (hb hby dmake_24) (v := 1) rfl (pc' := 25) rfl ?_
      refine w_newP w (hw _ (List.mem_of_getElem? (i := 13) rfl)) rfl rfl (hb hby dmake_25) (by decide) (n := 1) (by decide) (by decide) (pc' := 27) rfl (by decide) (by decide) fun T h28 x29 k30 w E31 q32 r33 V34 => ?_
      refine s_dup w (hb hby dmake_27) rfl (pc' := 28) rfl ?_
      refine s_iconst w (hb hby dmake_28) (v := 0) rfl (pc' := 29) rfl ?_
      refine s_iload_n w (hb hby dmake_29) rfl (pc' := 30) rfl ?_
      refine w_stC w V34 (i := 0) (by decide) rfl (by decide) (Nat.le_of_ble_eq_true rfl) lc0.nar (hb hby dmake_30) (Or.inr r33) (pc' := 31) rfl fun T h35 w W36 V37 => ?_
      have E38 := Ext.wr' E31 W36 q32
      refine w_special w hEL (y := (⟨"java/lang/String", "<init>", "([C)V"⟩ : MethodName)) (a := x22) rfl (hw _ (List.mem_of_getElem? (i := 14) rfl)) (hw _ (List.mem_of_getElem? (i := 15) rfl)) (hw _ (List.mem_of_getElem? (i := 12) rfl)) (hw _ (List.mem_of_getElem? (i := 16) rfl)) (by decide) (rm_in1 G0 h35 x22 x29 1 k30 [c0] _ _ rfl (Nat.le_of_ble_eq_true rfl) (Nat.le_of_ble_eq_true rfl) (by intro c q; simp only [List.mem_cons, List.not_mem_nil, or_false] at q; rcases q with rfl <;> first | exact lc0) (show Arv Z h35 x29 k30 .char 1 (([c0] : List Int32).map Value.int) (.int 0) from V37) (A26.ext E38) (F_value_x22.ext E38) (F_coder_x22.ext E38)) (allS (List.mem_of_getElem? (i := 1) rfl) all0) (allS (Or.inr r25) all0) (argsL := [.ref x29]) (rest := [.ref x22]) (lenOf (by decide +kernel : parseMethodDescriptor "([C)V" = some ⟨[(.array .char)], none⟩) rfl) rfl rfl (hb hby dmake_31) (by rw [hml]; rfl) (W := 1) (Nat.le_of_eq rfl) (by decide) (by decide) (by decide) (by decide) (pc' := 34) rfl fun u39 T h40 w K41 P42 => ?_
      obtain ⟨rfl, F43⟩ := P42
      have E44 := Ext.kp (Ext.tr E23 E38) K41 (allS q24 all0)
      show Run p e below _ T (mkF m 34 #[.val (.int n), .val (.int c0), .val (.int c1), .val (.int c2), .val (.int c3), .val (.int c4), .val (.int c5), .val (.int c6)] [.ref x22])
      refine w_areturn w hEL hs hlk hret rfl rfl (hb hby dmake_34) (by decide) (by decide) ⟨x22, rfl, ?_⟩
      have e : strL n c0 c1 c2 c3 c4 c5 c6 = [c0] := by simp [strL, ct1, ct20]
      rw [e]; exact F43
    · -- ¬ (n = 1)
      refine s_iload_n w (hb hby dmake_35) rfl (pc' := 36) rfl ?_
      refine s_iconst w (hb hby dmake_36) (v := 2) rfl (pc' := 37) rfl ?_
      refine s_icmp_ne w (hb hby dmake_37) (by decide) (pc1 := 40) rfl (pc2 := 59) rfl (fun ct45 => ?_) (fun ct45 => ?_)
      · -- n = 2
        refine w_new w (hw _ (List.mem_of_getElem? (i := 10) rfl)) (hw _ (List.mem_of_getElem? (i := 11) rfl)) (hw _ (List.mem_of_getElem? (i := 12) rfl)) (hb hby dmake_40) (pc' := 43) rfl (by decide) (by decide) fun T h46 x47 w E48 q49 r50 A51 D52 => ?_
        have F_value_x47 : Fld Z h46 x47 "java/lang/String" "value" "[B" (.null) := D52 (Or.inr (hw _ (List.mem_of_getElem? (i := 26) rfl))) (ty := (.array .byte)) (by decide)
        have F_coder_x47 : Fld Z h46 x47 "java/lang/String" "coder" "B" (.int 0) := D52 (Or.inr (hw _ (List.mem_of_getElem? (i := 27) rfl))) (ty := .byte) (by decide)
        refine s_dup w (hb hby dmake_43) rfl (pc' := 44) rfl ?_
        refine s_iconst w (hb hby dmake_44) (v := 2) rfl (pc' := 45) rfl ?_
        refine w_newP w (hw _ (List.mem_of_getElem? (i := 13) rfl)) rfl rfl (hb hby dmake_45) (by decide) (n := 2) (by decide) (by decide) (pc' := 47) rfl (by decide) (by decide) fun T h53 x54 k55 w E56 q57 r58 V59 => ?_
        refine s_dup w (hb hby dmake_47) rfl (pc' := 48) rfl ?_
        refine s_iconst w (hb hby dmake_48) (v := 0) rfl (pc' := 49) rfl ?_
        refine s_iload_n w (hb hby dmake_49) rfl (pc' := 50) rfl ?_
        refine w_stC w V59 (i := 0) (by decide) rfl (by decide) (Nat.le_of_ble_eq_true rfl) lc0.nar (hb hby dmake_50) (Or.inr r58) (pc' := 51) rfl fun T h60 w W61 V62 => ?_
        have E63 := Ext.wr' E56 W61 q57
        refine s_dup w (hb hby dmake_51) rfl (pc' := 52) rfl ?_
        refine s_iconst w (hb hby dmake_52) (v := 1) rfl (pc' := 53) rfl ?_
        refine s_iload_n w (hb hby dmake_53) rfl (pc' := 54) rfl ?_
        refine w_stC w V62 (i := 1) (by decide) rfl (by decide) (Nat.le_of_ble_eq_true rfl) lc1.nar (hb hby dmake_54) (Or.inr r58) (pc' := 55) rfl fun T h64 w W65 V66 => ?_
        have E67 := Ext.wr' E63 W65 q57
        refine w_special w hEL (y := (⟨"java/lang/String", "<init>", "([C)V"⟩ : MethodName)) (a := x47) rfl (hw _ (List.mem_of_getElem? (i := 14) rfl)) (hw _ (List.mem_of_getElem? (i := 15) rfl)) (hw _ (List.mem_of_getElem? (i := 12) rfl)) (hw _ (List.mem_of_getElem? (i := 16) rfl)) (by decide) (rm_in1 G0 h64 x47 x54 2 k55 [c0, c1] _ _ rfl (Nat.le_of_ble_eq_true rfl) (Nat.le_of_ble_eq_true rfl) (by intro c q; simp only [List.mem_cons, List.not_mem_nil, or_false] at q; rcases q with rfl | rfl <;> first | exact lc0 | exact lc1) (show Arv Z h64 x54 k55 .char 2 (([c0, c1] : List Int32).map Value.int) (.int 0) from V66) (A51.ext E67) (F_value_x47.ext E67) (F_coder_x47.ext E67)) (allS (List.mem_of_getElem? (i := 1) rfl) all0) (allS (Or.inr r50) all0) (argsL := [.ref x54]) (rest := [.ref x47]) (lenOf (by decide +kernel : parseMethodDescriptor "([C)V" = some ⟨[(.array .char)], none⟩) rfl) rfl rfl (hb hby dmake_55) (by rw [hml]; rfl) (W := 1) (Nat.le_of_eq rfl) (by decide) (by decide) (by decide) (by decide) (pc' := 58) rfl fun u68 T h69 w K70 P71 => ?_
        obtain ⟨rfl, F72⟩ := P71
        have E73 := Ext.kp (Ext.tr E48 E67) K70 (allS q49 all0)
        show Run p e below _ T (mkF m 58 #[.val (.int n), .val (.int c0), .val (.int c1), .val (.int c2), .val (.int c3), .val (.int c4), .val (.int c5), .val (.int c6)] [.ref x47])
        refine w_areturn w hEL hs hlk hret rfl rfl (hb hby dmake_58) (by decide) (by decide) ⟨x47, rfl, ?_⟩
        have e : strL n c0 c1 c2 c3 c4 c5 c6 = [c0, c1] := by simp [strL, ct1, ct20, ct45]
        rw [e]; exact F72
      · -- ¬ (n = 2)
        refine s_iload_n w (hb hby dmake_59) rfl (pc' := 60) rfl ?_
        refine s_iconst w (hb hby dmake_60) (v := 3) rfl (pc' := 61) rfl ?_
        refine s_icmp_ne w (hb hby dmake_61) (by decide) (pc1 := 64) rfl (pc2 := 87) rfl (fun ct74 => ?_) (fun ct74 => ?_)
        · -- n = 3
          refine w_new w (hw _ (List.mem_of_getElem? (i := 10) rfl)) (hw _ (List.mem_of_getElem? (i := 11) rfl)) (hw _ (List.mem_of_getElem? (i := 12) rfl)) (hb hby dmake_64) (pc' := 67) rfl (by decide) (by decide) fun T h75 x76 w E77 q78 r79 A80 D81 => ?_
          have F_value_x76 : Fld Z h75 x76 "java/lang/String" "value" "[B" (.null) := D81 (Or.inr (hw _ (List.mem_of_getElem? (i := 26) rfl))) (ty := (.array .byte)) (by decide)
          have F_coder_x76 : Fld Z h75 x76 "java/lang/String" "coder" "B" (.int 0) := D81 (Or.inr (hw _ (List.mem_of_getElem? (i := 27) rfl))) (ty := .byte) (by decide)
          refine s_dup w (hb hby dmake_67) rfl (pc' := 68) rfl ?_
          refine s_iconst w (hb hby dmake_68) (v := 3) rfl (pc' := 69) rfl ?_
          refine w_newP w (hw _ (List.mem_of_getElem? (i := 13) rfl)) rfl rfl (hb hby dmake_69) (by decide) (n := 3) (by decide) (by decide) (pc' := 71) rfl (by decide) (by decide) fun T h82 x83 k84 w E85 q86 r87 V88 => ?_
          refine s_dup w (hb hby dmake_71) rfl (pc' := 72) rfl ?_
          refine s_iconst w (hb hby dmake_72) (v := 0) rfl (pc' := 73) rfl ?_
          refine s_iload_n w (hb hby dmake_73) rfl (pc' := 74) rfl ?_
          refine w_stC w V88 (i := 0) (by decide) rfl (by decide) (Nat.le_of_ble_eq_true rfl) lc0.nar (hb hby dmake_74) (Or.inr r87) (pc' := 75) rfl fun T h89 w W90 V91 => ?_
          have E92 := Ext.wr' E85 W90 q86
          refine s_dup w (hb hby dmake_75) rfl (pc' := 76) rfl ?_
          refine s_iconst w (hb hby dmake_76) (v := 1) rfl (pc' := 77) rfl ?_
          refine s_iload_n w (hb hby dmake_77) rfl (pc' := 78) rfl ?_
          refine w_stC w V91 (i := 1) (by decide) rfl (by decide) (Nat.le_of_ble_eq_true rfl) lc1.nar (hb hby dmake_78) (Or.inr r87) (pc' := 79) rfl fun T h93 w W94 V95 => ?_
          have E96 := Ext.wr' E92 W94 q86
          refine s_dup w (hb hby dmake_79) rfl (pc' := 80) rfl ?_
          refine s_iconst w (hb hby dmake_80) (v := 2) rfl (pc' := 81) rfl ?_
          refine s_iload_n w (hb hby dmake_81) rfl (pc' := 82) rfl ?_
          refine w_stC w V95 (i := 2) (by decide) rfl (by decide) (Nat.le_of_ble_eq_true rfl) lc2.nar (hb hby dmake_82) (Or.inr r87) (pc' := 83) rfl fun T h97 w W98 V99 => ?_
          have E100 := Ext.wr' E96 W98 q86
          refine w_special w hEL (y := (⟨"java/lang/String", "<init>", "([C)V"⟩ : MethodName)) (a := x76) rfl (hw _ (List.mem_of_getElem? (i := 14) rfl)) (hw _ (List.mem_of_getElem? (i := 15) rfl)) (hw _ (List.mem_of_getElem? (i := 12) rfl)) (hw _ (List.mem_of_getElem? (i := 16) rfl)) (by decide) (rm_in1 G0 h97 x76 x83 3 k84 [c0, c1, c2] _ _ rfl (Nat.le_of_ble_eq_true rfl) (Nat.le_of_ble_eq_true rfl) (by intro c q; simp only [List.mem_cons, List.not_mem_nil, or_false] at q; rcases q with rfl | rfl | rfl <;> first | exact lc0 | exact lc1 | exact lc2) (show Arv Z h97 x83 k84 .char 3 (([c0, c1, c2] : List Int32).map Value.int) (.int 0) from V99) (A80.ext E100) (F_value_x76.ext E100) (F_coder_x76.ext E100)) (allS (List.mem_of_getElem? (i := 1) rfl) all0) (allS (Or.inr r79) all0) (argsL := [.ref x83]) (rest := [.ref x76]) (lenOf (by decide +kernel : parseMethodDescriptor "([C)V" = some ⟨[(.array .char)], none⟩) rfl) rfl rfl (hb hby dmake_83) (by rw [hml]; rfl) (W := 1) (Nat.le_of_eq rfl) (by decide) (by decide) (by decide) (by decide) (pc' := 86) rfl fun u101 T h102 w K103 P104 => ?_
          obtain ⟨rfl, F105⟩ := P104
          have E106 := Ext.kp (Ext.tr E77 E100) K103 (allS q78 all0)
          show Run p e below _ T (mkF m 86 #[.val (.int n), .val (.int c0), .val (.int c1), .val (.int c2), .val (.int c3), .val (.int c4), .val (.int c5), .val (.int c6)] [.ref x76])
          refine w_areturn w hEL hs hlk hret rfl rfl (hb hby dmake_86) (by decide) (by decide) ⟨x76, rfl, ?_⟩
          have e : strL n c0 c1 c2 c3 c4 c5 c6 = [c0, c1, c2] := by simp [strL, ct1, ct20, ct45, ct74]
          rw [e]; exact F105
        · -- ¬ (n = 3)
          refine s_iload_n w (hb hby dmake_87) rfl (pc' := 88) rfl ?_
          refine s_iconst w (hb hby dmake_88) (v := 4) rfl (pc' := 89) rfl ?_
          refine s_icmp_ne w (hb hby dmake_89) (by decide) (pc1 := 92) rfl (pc2 := 120) rfl (fun ct107 => ?_) (fun ct107 => ?_)
          · -- n = 4
            refine w_new w (hw _ (List.mem_of_getElem? (i := 10) rfl)) (hw _ (List.mem_of_getElem? (i := 11) rfl)) (hw _ (List.mem_of_getElem? (i := 12) rfl)) (hb hby dmake_92) (pc' := 95) rfl (by decide) (by decide) fun T h108 x109 w E110 q111 r112 A113 D114 => ?_
            have F_value_x109 : Fld Z h108 x109 "java/lang/String" "value" "[B" (.null) := D114 (Or.inr (hw _ (List.mem_of_getElem? (i := 26) rfl))) (ty := (.array .byte)) (by decide)
            have F_coder_x109 : Fld Z h108 x109 "java/lang/String" "coder" "B" (.int 0) := D114 (Or.inr (hw _ (List.mem_of_getElem? (i := 27) rfl))) (ty := .byte) (by decide)
            refine s_dup w (hb hby dmake_95) rfl (pc' := 96) rfl ?_
            refine s_iconst w (hb hby dmake_96) (v := 4) rfl (pc' := 97) rfl ?_
            refine w_newP w (hw _ (List.mem_of_getElem? (i := 13) rfl)) rfl rfl (hb hby dmake_97) (by decide) (n := 4) (by decide) (by decide) (pc' := 99) rfl (by decide) (by decide) fun T h115 x116 k117 w E118 q119 r120 V121 => ?_
            refine s_dup w (hb hby dmake_99) rfl (pc' := 100) rfl ?_
            refine s_iconst w (hb hby dmake_100) (v := 0) rfl (pc' := 101) rfl ?_
            refine s_iload_n w (hb hby dmake_101) rfl (pc' := 102) rfl ?_
            refine w_stC w V121 (i := 0) (by decide) rfl (by decide) (Nat.le_of_ble_eq_true rfl) lc0.nar (hb hby dmake_102) (Or.inr r120) (pc' := 103) rfl fun T h122 w W123 V124 => ?_
            have E125 := Ext.wr' E118 W123 q119
            refine s_dup w (hb hby dmake_103) rfl (pc' := 104) rfl ?_
            refine s_iconst w (hb hby dmake_104) (v := 1) rfl (pc' := 105) rfl ?_
            refine s_iload_n w (hb hby dmake_105) rfl (pc' := 106) rfl ?_
            refine w_stC w V124 (i := 1) (by decide) rfl (by decide) (Nat.le_of_ble_eq_true rfl) lc1.nar (hb hby dmake_106) (Or.inr r120) (pc' := 107) rfl fun T h126 w W127 V128 => ?_
            have E129 := Ext.wr' E125 W127 q119
            refine s_dup w (hb hby dmake_107) rfl (pc' := 108) rfl ?_
            refine s_iconst w (hb hby dmake_108) (v := 2) rfl (pc' := 109) rfl ?_
            refine s_iload_n w (hb hby dmake_109) rfl (pc' := 110) rfl ?_
            refine w_stC w V128 (i := 2) (by decide) rfl (by decide) (Nat.le_of_ble_eq_true rfl) lc2.nar (hb hby dmake_110) (Or.inr r120) (pc' := 111) rfl fun T h130 w W131 V132 => ?_
            have E133 := Ext.wr' E129 W131 q119
            refine s_dup w (hb hby dmake_111) rfl (pc' := 112) rfl ?_
            refine s_iconst w (hb hby dmake_112) (v := 3) rfl (pc' := 113) rfl ?_
            refine s_iload w (hb hby dmake_113) rfl (pc' := 115) rfl ?_
            refine w_stC w V132 (i := 3) (by decide) rfl (by decide) (Nat.le_of_ble_eq_true rfl) lc3.nar (hb hby dmake_115) (Or.inr r120) (pc' := 116) rfl fun T h134 w W135 V136 => ?_
            have E137 := Ext.wr' E133 W135 q119
            refine w_special w hEL (y := (⟨"java/lang/String", "<init>", "([C)V"⟩ : MethodName)) (a := x109) rfl (hw _ (List.mem_of_getElem? (i := 14) rfl)) (hw _ (List.mem_of_getElem? (i := 15) rfl)) (hw _ (List.mem_of_getElem? (i := 12) rfl)) (hw _ (List.mem_of_getElem? (i := 16) rfl)) (by decide) (rm_in1 G0 h134 x109 x116 4 k117 [c0, c1, c2, c3] _ _ rfl (Nat.le_of_ble_eq_true rfl) (Nat.le_of_ble_eq_true rfl) (by intro c q; simp only [List.mem_cons, List.not_mem_nil, or_false] at q; rcases q with rfl | rfl | rfl | rfl <;> first | exact lc0 | exact lc1 | exact lc2 | exact lc3) (show Arv Z h134 x116 k117 .char 4 (([c0, c1, c2, c3] : List Int32).map Value.int) (.int 0) from V136) (A113.ext E137) (F_value_x109.ext E137) (F_coder_x109.ext E137)) (allS (List.mem_of_getElem? (i := 1) rfl) all0) (allS (Or.inr r112) all0) (argsL := [.ref x116]) (rest := [.ref x109]) (lenOf (by decide +kernel : parseMethodDescriptor "([C)V" = some ⟨[(.array .char)], none⟩) rfl) rfl rfl (hb hby dmake_116) (by rw [hml]; rfl) (W := 1) (Nat.le_of_eq rfl) (by decide) (by decide) (by decide) (by decide) (pc' := 119) rfl fun u138 T h139 w K140 P141 => ?_
            obtain ⟨rfl, F142⟩ := P141
            have E143 := Ext.kp (Ext.tr E110 E137) K140 (allS q111 all0)
            show Run p e below _ T (mkF m 119 #[.val (.int n), .val (.int c0), .val (.int c1), .val (.int c2), .val (.int c3), .val (.int c4), .val (.int c5), .val (.int c6)] [.ref x109])
            refine w_areturn w hEL hs hlk hret rfl rfl (hb hby dmake_119) (by decide) (by decide) ⟨x109, rfl, ?_⟩
            have e : strL n c0 c1 c2 c3 c4 c5 c6 = [c0, c1, c2, c3] := by simp [strL, ct1, ct20, ct45, ct74, ct107]
            rw [e]; exact F142
          · -- ¬ (n = 4)
            refine s_iload_n w (hb hby dmake_120) rfl (pc' := 121) rfl ?_
            refine s_iconst w (hb hby dmake_121) (v := 5) rfl (pc' := 122) rfl ?_
            refine s_icmp_ne w (hb hby dmake_122) (by decide) (pc1 := 125) rfl (pc2 := 158) rfl (fun ct144 => ?_) (fun ct144 => ?_)
            · -- n = 5
              refine w_new w (hw _ (List.mem_of_getElem? (i := 10) rfl)) (hw _ (List.mem_of_getElem? (i := 11) rfl)) (hw _ (List.mem_of_getElem? (i := 12) rfl)) (hb hby dmake_125) (pc' := 128) rfl (by decide) (by decide) fun T h145 x146 w E147 q148 r149 A150 D151 => ?_
              have F_value_x146 : Fld Z h145 x146 "java/lang/String" "value" "[B" (.null) := D151 (Or.inr (hw _ (List.mem_of_getElem? (i := 26) rfl))) (ty := (.array .byte)) (by decide)
              have F_coder_x146 : Fld Z h145 x146 "java/lang/String" "coder" "B" (.int 0) := D151 (Or.inr (hw _ (List.mem_of_getElem? (i := 27) rfl))) (ty := .byte) (by decide)
              refine s_dup w (hb hby dmake_128) rfl (pc' := 129) rfl ?_
              refine s_iconst w (hb hby dmake_129) (v := 5) rfl (pc' := 130) rfl ?_
              refine w_newP w (hw _ (List.mem_of_getElem? (i := 13) rfl)) rfl rfl (hb hby dmake_130) (by decide) (n := 5) (by decide) (by decide) (pc' := 132) rfl (by decide) (by decide) fun T h152 x153 k154 w E155 q156 r157 V158 => ?_
              refine s_dup w (hb hby dmake_132) rfl (pc' := 133) rfl ?_
              refine s_iconst w (hb hby dmake_133) (v := 0) rfl (pc' := 134) rfl ?_
              refine s_iload_n w (hb hby dmake_134) rfl (pc' := 135) rfl ?_
              refine w_stC w V158 (i := 0) (by decide) rfl (by decide) (Nat.le_of_ble_eq_true rfl) lc0.nar (hb hby dmake_135) (Or.inr r157) (pc' := 136) rfl fun T h159 w W160 V161 => ?_
              have E162 := Ext.wr' E155 W160 q156
              refine s_dup w (hb hby dmake_136) rfl (pc' := 137) rfl ?_
              refine s_iconst w (hb hby dmake_137) (v := 1) rfl (pc' := 138) rfl ?_
              refine s_iload_n w (hb hby dmake_138) rfl (pc' := 139) rfl ?_
              refine w_stC w V161 (i := 1) (by decide) rfl (by decide) (Nat.le_of_ble_eq_true rfl) lc1.nar (hb hby dmake_139) (Or.inr r157) (pc' := 140) rfl fun T h163 w W164 V165 => ?_
              have E166 := Ext.wr' E162 W164 q156
              refine s_dup w (hb hby dmake_140) rfl (pc' := 141) rfl ?_
              refine s_iconst w (hb hby dmake_141) (v := 2) rfl (pc' := 142) rfl ?_
              refine s_iload_n w (hb hby dmake_142) rfl (pc' := 143) rfl ?_
              refine w_stC w V165 (i := 2) (by decide) rfl (by decide) (Nat.le_of_ble_eq_true rfl) lc2.nar (hb hby dmake_143) (Or.inr r157) (pc' := 144) rfl fun T h167 w W168 V169 => ?_
              have E170 := Ext.wr' E166 W168 q156
              refine s_dup w (hb hby dmake_144) rfl (pc' := 145) rfl ?_
              refine s_iconst w (hb hby dmake_145) (v := 3) rfl (pc' := 146) rfl ?_
              refine s_iload w (hb hby dmake_146) rfl (pc' := 148) rfl ?_
              refine w_stC w V169 (i := 3) (by decide) rfl (by decide) (Nat.le_of_ble_eq_true rfl) lc3.nar (hb hby dmake_148) (Or.inr r157) (pc' := 149) rfl fun T h171 w W172 V173 => ?_
              have E174 := Ext.wr' E170 W172 q156
              refine s_dup w (hb hby dmake_149) rfl (pc' := 150) rfl ?_
              refine s_iconst w (hb hby dmake_150) (v := 4) rfl (pc' := 151) rfl ?_
              refine s_iload w (hb hby dmake_151) rfl (pc' := 153) rfl ?_
              refine w_stC w V173 (i := 4) (by decide) rfl (by decide) (Nat.le_of_ble_eq_true rfl) lc4.nar (hb hby dmake_153) (Or.inr r157) (pc' := 154) rfl fun T h175 w W176 V177 => ?_
              have E178 := Ext.wr' E174 W176 q156
              refine w_special w hEL (y := (⟨"java/lang/String", "<init>", "([C)V"⟩ : MethodName)) (a := x146) rfl (hw _ (List.mem_of_getElem? (i := 14) rfl)) (hw _ (List.mem_of_getElem? (i := 15) rfl)) (hw _ (List.mem_of_getElem? (i := 12) rfl)) (hw _ (List.mem_of_getElem? (i := 16) rfl)) (by decide) (rm_in1 G0 h175 x146 x153 5 k154 [c0, c1, c2, c3, c4] _ _ rfl (Nat.le_of_ble_eq_true rfl) (Nat.le_of_ble_eq_true rfl) (by intro c q; simp only [List.mem_cons, List.not_mem_nil, or_false] at q; rcases q with rfl | rfl | rfl | rfl | rfl <;> first | exact lc0 | exact lc1 | exact lc2 | exact lc3 | exact lc4) (show Arv Z h175 x153 k154 .char 5 (([c0, c1, c2, c3, c4] : List Int32).map Value.int) (.int 0) from V177) (A150.ext E178) (F_value_x146.ext E178) (F_coder_x146.ext E178)) (allS (List.mem_of_getElem? (i := 1) rfl) all0) (allS (Or.inr r149) all0) (argsL := [.ref x153]) (rest := [.ref x146]) (lenOf (by decide +kernel : parseMethodDescriptor "([C)V" = some ⟨[(.array .char)], none⟩) rfl) rfl rfl (hb hby dmake_154) (by rw [hml]; rfl) (W := 1) (Nat.le_of_eq rfl) (by decide) (by decide) (by decide) (by decide) (pc' := 157) rfl fun u179 T h180 w K181 P182 => ?_
              obtain ⟨rfl, F183⟩ := P182
              have E184 := Ext.kp (Ext.tr E147 E178) K181 (allS q148 all0)
              show Run p e below _ T (mkF m 157 #[.val (.int n), .val (.int c0), .val (.int c1), .val (.int c2), .val (.int c3), .val (.int c4), .val (.int c5), .val (.int c6)] [.ref x146])
              refine w_areturn w hEL hs hlk hret rfl rfl (hb hby dmake_157) (by decide) (by decide) ⟨x146, rfl, ?_⟩
              have e : strL n c0 c1 c2 c3 c4 c5 c6 = [c0, c1, c2, c3, c4] := by simp [strL, ct1, ct20, ct45, ct74, ct107, ct144]
              rw [e]; exact F183
            · -- ¬ (n = 5)
              refine s_iload_n w (hb hby dmake_158) rfl (pc' := 159) rfl ?_
              refine s_bipush w (hb hby dmake_159) (v := 6) rfl (pc' := 161) rfl ?_
              refine s_icmp_ne w (hb hby dmake_161) (by decide) (pc1 := 164) rfl (pc2 := 203) rfl (fun ct185 => ?_) (fun ct185 => ?_)
              · -- n = 6
                refine w_new w (hw _ (List.mem_of_getElem? (i := 10) rfl)) (hw _ (List.mem_of_getElem? (i := 11) rfl)) (hw _ (List.mem_of_getElem? (i := 12) rfl)) (hb hby dmake_164) (pc' := 167) rfl (by decide) (by decide) fun T h186 x187 w E188 q189 r190 A191 D192 => ?_
                have F_value_x187 : Fld Z h186 x187 "java/lang/String" "value" "[B" (.null) := D192 (Or.inr (hw _ (List.mem_of_getElem? (i := 26) rfl))) (ty := (.array .byte)) (by decide)
                have F_coder_x187 : Fld Z h186 x187 "java/lang/String" "coder" "B" (.int 0) := D192 (Or.inr (hw _ (List.mem_of_getElem? (i := 27) rfl))) (ty := .byte) (by decide)
                refine s_dup w (hb hby dmake_167) rfl (pc' := 168) rfl ?_
                refine s_bipush w (hb hby dmake_168) (v := 6) rfl (pc' := 170) rfl ?_
                refine w_newP w (hw _ (List.mem_of_getElem? (i := 13) rfl)) rfl rfl (hb hby dmake_170) (by decide) (n := 6) (by decide) (by decide) (pc' := 172) rfl (by decide) (by decide) fun T h193 x194 k195 w E196 q197 r198 V199 => ?_
                refine s_dup w (hb hby dmake_172) rfl (pc' := 173) rfl ?_
                refine s_iconst w (hb hby dmake_173) (v := 0) rfl (pc' := 174) rfl ?_
                refine s_iload_n w (hb hby dmake_174) rfl (pc' := 175) rfl ?_
                refine w_stC w V199 (i := 0) (by decide) rfl (by decide) (Nat.le_of_ble_eq_true rfl) lc0.nar (hb hby dmake_175) (Or.inr r198) (pc' := 176) rfl fun T h200 w W201 V202 => ?_
                have E203 := Ext.wr' E196 W201 q197
                refine s_dup w (hb hby dmake_176) rfl (pc' := 177) rfl ?_
                refine s_iconst w (hb hby dmake_177) (v := 1) rfl (pc' := 178) rfl ?_
                refine s_iload_n w (hb hby dmake_178) rfl (pc' := 179) rfl ?_
                refine w_stC w V202 (i := 1) (by decide) rfl (by decide) (Nat.le_of_ble_eq_true rfl) lc1.nar (hb hby dmake_179) (Or.inr r198) (pc' := 180) rfl fun T h204 w W205 V206 => ?_
                have E207 := Ext.wr' E203 W205 q197
                refine s_dup w (hb hby dmake_180) rfl (pc' := 181) rfl ?_
                refine s_iconst w (hb hby dmake_181) (v := 2) rfl (pc' := 182) rfl ?_
                refine s_iload_n w (hb hby dmake_182) rfl (pc' := 183) rfl ?_
                refine w_stC w V206 (i := 2) (by decide) rfl (by decide) (Nat.le_of_ble_eq_true rfl) lc2.nar (hb hby dmake_183) (Or.inr r198) (pc' := 184) rfl fun T h208 w W209 V210 => ?_
                have E211 := Ext.wr' E207 W209 q197
                refine s_dup w (hb hby dmake_184) rfl (pc' := 185) rfl ?_
                refine s_iconst w (hb hby dmake_185) (v := 3) rfl (pc' := 186) rfl ?_
                refine s_iload w (hb hby dmake_186) rfl (pc' := 188) rfl ?_
                refine w_stC w V210 (i := 3) (by decide) rfl (by decide) (Nat.le_of_ble_eq_true rfl) lc3.nar (hb hby dmake_188) (Or.inr r198) (pc' := 189) rfl fun T h212 w W213 V214 => ?_
                have E215 := Ext.wr' E211 W213 q197
                refine s_dup w (hb hby dmake_189) rfl (pc' := 190) rfl ?_
                refine s_iconst w (hb hby dmake_190) (v := 4) rfl (pc' := 191) rfl ?_
                refine s_iload w (hb hby dmake_191) rfl (pc' := 193) rfl ?_
                refine w_stC w V214 (i := 4) (by decide) rfl (by decide) (Nat.le_of_ble_eq_true rfl) lc4.nar (hb hby dmake_193) (Or.inr r198) (pc' := 194) rfl fun T h216 w W217 V218 => ?_
                have E219 := Ext.wr' E215 W217 q197
                refine s_dup w (hb hby dmake_194) rfl (pc' := 195) rfl ?_
                refine s_iconst w (hb hby dmake_195) (v := 5) rfl (pc' := 196) rfl ?_
                refine s_iload w (hb hby dmake_196) rfl (pc' := 198) rfl ?_
                refine w_stC w V218 (i := 5) (by decide) rfl (by decide) (Nat.le_of_ble_eq_true rfl) lc5.nar (hb hby dmake_198) (Or.inr r198) (pc' := 199) rfl fun T h220 w W221 V222 => ?_
                have E223 := Ext.wr' E219 W221 q197
                refine w_special w hEL (y := (⟨"java/lang/String", "<init>", "([C)V"⟩ : MethodName)) (a := x187) rfl (hw _ (List.mem_of_getElem? (i := 14) rfl)) (hw _ (List.mem_of_getElem? (i := 15) rfl)) (hw _ (List.mem_of_getElem? (i := 12) rfl)) (hw _ (List.mem_of_getElem? (i := 16) rfl)) (by decide) (rm_in1 G0 h220 x187 x194 6 k195 [c0, c1, c2, c3, c4, c5] _ _ rfl (Nat.le_of_ble_eq_true rfl) (Nat.le_of_ble_eq_true rfl) (by intro c q; simp only [List.mem_cons, List.not_mem_nil, or_false] at q; rcases q with rfl | rfl | rfl | rfl | rfl | rfl <;> first | exact lc0 | exact lc1 | exact lc2 | exact lc3 | exact lc4 | exact lc5) (show Arv Z h220 x194 k195 .char 6 (([c0, c1, c2, c3, c4, c5] : List Int32).map Value.int) (.int 0) from V222) (A191.ext E223) (F_value_x187.ext E223) (F_coder_x187.ext E223)) (allS (List.mem_of_getElem? (i := 1) rfl) all0) (allS (Or.inr r190) all0) (argsL := [.ref x194]) (rest := [.ref x187]) (lenOf (by decide +kernel : parseMethodDescriptor "([C)V" = some ⟨[(.array .char)], none⟩) rfl) rfl rfl (hb hby dmake_199) (by rw [hml]; rfl) (W := 1) (Nat.le_of_eq rfl) (by decide) (by decide) (by decide) (by decide) (pc' := 202) rfl fun u224 T h225 w K226 P227 => ?_
                obtain ⟨rfl, F228⟩ := P227
                have E229 := Ext.kp (Ext.tr E188 E223) K226 (allS q189 all0)
                show Run p e below _ T (mkF m 202 #[.val (.int n), .val (.int c0), .val (.int c1), .val (.int c2), .val (.int c3), .val (.int c4), .val (.int c5), .val (.int c6)] [.ref x187])
                refine w_areturn w hEL hs hlk hret rfl rfl (hb hby dmake_202) (by decide) (by decide) ⟨x187, rfl, ?_⟩
                have e : strL n c0 c1 c2 c3 c4 c5 c6 = [c0, c1, c2, c3, c4, c5] := by simp [strL, ct1, ct20, ct45, ct74, ct107, ct144, ct185]
                rw [e]; exact F228
              · -- ¬ (n = 6)
                refine w_new w (hw _ (List.mem_of_getElem? (i := 10) rfl)) (hw _ (List.mem_of_getElem? (i := 11) rfl)) (hw _ (List.mem_of_getElem? (i := 12) rfl)) (hb hby dmake_203) (pc' := 206) rfl (by decide) (by decide) fun T h230 x231 w E232 q233 r234 A235 D236 => ?_
                have F_value_x231 : Fld Z h230 x231 "java/lang/String" "value" "[B" (.null) := D236 (Or.inr (hw _ (List.mem_of_getElem? (i := 26) rfl))) (ty := (.array .byte)) (by decide)
                have F_coder_x231 : Fld Z h230 x231 "java/lang/String" "coder" "B" (.int 0) := D236 (Or.inr (hw _ (List.mem_of_getElem? (i := 27) rfl))) (ty := .byte) (by decide)
                refine s_dup w (hb hby dmake_206) rfl (pc' := 207) rfl ?_
                refine s_bipush w (hb hby dmake_207) (v := 7) rfl (pc' := 209) rfl ?_
                refine w_newP w (hw _ (List.mem_of_getElem? (i := 13) rfl)) rfl rfl (hb hby dmake_209) (by decide) (n := 7) (by decide) (by decide) (pc' := 211) rfl (by decide) (by decide) fun T h237 x238 k239 w E240 q241 r242 V243 => ?_
                refine s_dup w (hb hby dmake_211) rfl (pc' := 212) rfl ?_
                refine s_iconst w (hb hby dmake_212) (v := 0) rfl (pc' := 213) rfl ?_
                refine s_iload_n w (hb hby dmake_213) rfl (pc' := 214) rfl ?_
                refine w_stC w V243 (i := 0) (by decide) rfl (by decide) (Nat.le_of_ble_eq_true rfl) lc0.nar (hb hby dmake_214) (Or.inr r242) (pc' := 215) rfl fun T h244 w W245 V246 => ?_
                have E247 := Ext.wr' E240 W245 q241
                refine s_dup w (hb hby dmake_215) rfl (pc' := 216) rfl ?_
                refine s_iconst w (hb hby dmake_216) (v := 1) rfl (pc' := 217) rfl ?_
                refine s_iload_n w (hb hby dmake_217) rfl (pc' := 218) rfl ?_
                refine w_stC w V246 (i := 1) (by decide) rfl (by decide) (Nat.le_of_ble_eq_true rfl) lc1.nar (hb hby dmake_218) (Or.inr r242) (pc' := 219) rfl fun T h248 w W249 V250 => ?_
                have E251 := Ext.wr' E247 W249 q241
                refine s_dup w (hb hby dmake_219) rfl (pc' := 220) rfl ?_
                refine s_iconst w (hb hby dmake_220) (v := 2) rfl (pc' := 221) rfl ?_
                refine s_iload_n w (hb hby dmake_221) rfl (pc' := 222) rfl ?_
                refine w_stC w V250 (i := 2) (by decide) rfl (by decide) (Nat.le_of_ble_eq_true rfl) lc2.nar (hb hby dmake_222) (Or.inr r242) (pc' := 223) rfl fun T h252 w W253 V254 => ?_
                have E255 := Ext.wr' E251 W253 q241
                refine s_dup w (hb hby dmake_223) rfl (pc' := 224) rfl ?_
                refine s_iconst w (hb hby dmake_224) (v := 3) rfl (pc' := 225) rfl ?_
                refine s_iload w (hb hby dmake_225) rfl (pc' := 227) rfl ?_
                refine w_stC w V254 (i := 3) (by decide) rfl (by decide) (Nat.le_of_ble_eq_true rfl) lc3.nar (hb hby dmake_227) (Or.inr r242) (pc' := 228) rfl fun T h256 w W257 V258 => ?_
                have E259 := Ext.wr' E255 W257 q241
                refine s_dup w (hb hby dmake_228) rfl (pc' := 229) rfl ?_
                refine s_iconst w (hb hby dmake_229) (v := 4) rfl (pc' := 230) rfl ?_
                refine s_iload w (hb hby dmake_230) rfl (pc' := 232) rfl ?_
                refine w_stC w V258 (i := 4) (by decide) rfl (by decide) (Nat.le_of_ble_eq_true rfl) lc4.nar (hb hby dmake_232) (Or.inr r242) (pc' := 233) rfl fun T h260 w W261 V262 => ?_
                have E263 := Ext.wr' E259 W261 q241
                refine s_dup w (hb hby dmake_233) rfl (pc' := 234) rfl ?_
                refine s_iconst w (hb hby dmake_234) (v := 5) rfl (pc' := 235) rfl ?_
                refine s_iload w (hb hby dmake_235) rfl (pc' := 237) rfl ?_
                refine w_stC w V262 (i := 5) (by decide) rfl (by decide) (Nat.le_of_ble_eq_true rfl) lc5.nar (hb hby dmake_237) (Or.inr r242) (pc' := 238) rfl fun T h264 w W265 V266 => ?_
                have E267 := Ext.wr' E263 W265 q241
                refine s_dup w (hb hby dmake_238) rfl (pc' := 239) rfl ?_
                refine s_bipush w (hb hby dmake_239) (v := 6) rfl (pc' := 241) rfl ?_
                refine s_iload w (hb hby dmake_241) rfl (pc' := 243) rfl ?_
                refine w_stC w V266 (i := 6) (by decide) rfl (by decide) (Nat.le_of_ble_eq_true rfl) lc6.nar (hb hby dmake_243) (Or.inr r242) (pc' := 244) rfl fun T h268 w W269 V270 => ?_
                have E271 := Ext.wr' E267 W269 q241
                refine w_special w hEL (y := (⟨"java/lang/String", "<init>", "([C)V"⟩ : MethodName)) (a := x231) rfl (hw _ (List.mem_of_getElem? (i := 14) rfl)) (hw _ (List.mem_of_getElem? (i := 15) rfl)) (hw _ (List.mem_of_getElem? (i := 12) rfl)) (hw _ (List.mem_of_getElem? (i := 16) rfl)) (by decide) (rm_in1 G0 h268 x231 x238 7 k239 [c0, c1, c2, c3, c4, c5, c6] _ _ rfl (Nat.le_of_ble_eq_true rfl) (Nat.le_of_ble_eq_true rfl) (by intro c q; simp only [List.mem_cons, List.not_mem_nil, or_false] at q; rcases q with rfl | rfl | rfl | rfl | rfl | rfl | rfl <;> first | exact lc0 | exact lc1 | exact lc2 | exact lc3 | exact lc4 | exact lc5 | exact lc6) (show Arv Z h268 x238 k239 .char 7 (([c0, c1, c2, c3, c4, c5, c6] : List Int32).map Value.int) (.int 0) from V270) (A235.ext E271) (F_value_x231.ext E271) (F_coder_x231.ext E271)) (allS (List.mem_of_getElem? (i := 1) rfl) all0) (allS (Or.inr r234) all0) (argsL := [.ref x238]) (rest := [.ref x231]) (lenOf (by decide +kernel : parseMethodDescriptor "([C)V" = some ⟨[(.array .char)], none⟩) rfl) rfl rfl (hb hby dmake_244) (by rw [hml]; rfl) (W := 1) (Nat.le_of_eq rfl) (by decide) (by decide) (by decide) (by decide) (pc' := 247) rfl fun u272 T h273 w K274 P275 => ?_
                obtain ⟨rfl, F276⟩ := P275
                have E277 := Ext.kp (Ext.tr E232 E271) K274 (allS q233 all0)
                show Run p e below _ T (mkF m 247 #[.val (.int n), .val (.int c0), .val (.int c1), .val (.int c2), .val (.int c3), .val (.int c4), .val (.int c5), .val (.int c6)] [.ref x231])
                refine w_areturn w hEL hs hlk hret rfl rfl (hb hby dmake_247) (by decide) (by decide) ⟨x231, rfl, ?_⟩
                have e : strL n c0 c1 c2 c3 c4 c5 c6 = [c0, c1, c2, c3, c4, c5, c6] := by simp [strL, ct1, ct20, ct45, ct74, ct107, ct144, ct185]
                rw [e]; exact F276
theorem dasks_0 : decode prog_15_method_2_code 0 = .ok (.aload_n 0, 1) := by decide +kernel
theorem dasks_1 : decode prog_15_method_2_code 1 = .ok (.ldc 7, 2) := by decide +kernel
theorem dasks_3 : decode prog_15_method_2_code 3 = .ok (.invokevirtual 9, 3) := by decide +kernel
theorem dasks_6 : decode prog_15_method_2_code 6 = .ok (.ifCond .ne 12, 3) := by decide +kernel
theorem dasks_9 : decode prog_15_method_2_code 9 = .ok (.aload_n 0, 1) := by decide +kernel
theorem dasks_10 : decode prog_15_method_2_code 10 = .ok (.ldc 15, 2) := by decide +kernel
theorem dasks_12 : decode prog_15_method_2_code 12 = .ok (.invokevirtual 9, 3) := by decide +kernel
theorem dasks_15 : decode prog_15_method_2_code 15 = .ok (.ifCond .eq 7, 3) := by decide +kernel
theorem dasks_18 : decode prog_15_method_2_code 18 = .ok (.iconst 1, 1) := by decide +kernel
theorem dasks_19 : decode prog_15_method_2_code 19 = .ok (.goto 4, 3) := by decide +kernel
theorem dasks_22 : decode prog_15_method_2_code 22 = .ok (.iconst 0, 1) := by decide +kernel
theorem dasks_23 : decode prog_15_method_2_code 23 = .ok (.ireturn, 1) := by decide +kernel
theorem pn_3 : plainName "com/example/benchwire/benchwire/cli/Help" = true := by first | (simp [plainName, overriddenIn]; done) | decide +kernel
theorem ef_asks (m : MethodId) (x : Addr) : entryFrame m #[.ref x] 1 = mkF m 0 #[.val (.ref x)] [] := by first | (simp [entryFrame, mkF, argsToLocals, Value.category]; done) | rfl
set_option maxRecDepth 65536 in
set_option maxHeartbeats 40000000 in
theorem rm_asks {l : Launch} {Z : State} {a0 : Array Value} {zc : Int32}  (G : Gl Z a0 zc ) (h : Heap) (x : Addr) (cs : List Int32) (Sx : Str Z h x cs) :
    Met l Z consts_1 (⟨"com/example/benchwire/benchwire/cli/Help", "asks", "(Ljava/lang/String;)Z"⟩ : MethodName) prog_15_method_2_code 1 (some .boolean) ({ frames := 2, cells := 4, slots := 40, locals := 28 } : Room) #[.ref x] h [] [] (fun v h' => v = some (.int (if cs = [45, 45, 104, 101, 108, 112] ∨ cs = [45, 104] then 1 else 0))) := by
  have G0 := G
  obtain ⟨hw, hEL, SC, hz, SA, SH, SL⟩ := G
  have hw1 : ∀ d ∈ StrChars.Road.words, d.before a0 Z = true := fun d q => hw d (sub1 d q)
  have hwA : ∀ d ∈ Bundle.stringAtoms, d.before a0 Z = true := fun d q => hw d (subA d q)
  have hw2 : ∀ d ∈ wordsS, d.before a0 Z = true := fun d q => hw d (sub2 d q)
  have hwE : ∀ d ∈ StrChars.Road.wordsEq, d.before a0 Z = true := fun d q => hw d (subE d q)
  refine Met.of (plainFor_of_name pn_3) ?_
  intro p e s m below meth c T hnm hret hlk hby hml hs w
  have hZ0 := w.old
  refine Run.cast (ef_asks m x) ?_
  refine s_aload_n w (hb hby dasks_0) rfl rfl (pc' := 1) rfl ?_
  refine w_ldcS w hEL (text := "--help") (hw _ (List.mem_of_getElem? (i := 36) rfl)) hwA (by decide) (vs := [.int 45, .int 45, .int 104, .int 101, .int 108, .int 112]) (z := 6) (n := 24) ⟨by decide, by decide⟩ (by decide) rfl (by decide) (by decide) (hb hby dasks_1) (pc' := 3) rfl (by decide) (by decide) fun T h1 x2 t3 kb4 w E5 A6 C7 V8 K9 N10 => ?_
  have F11 : Str Z h1 x2 [45, 45, 104, 101, 108, 112] := Str.low A6 V8 C7 rfl rfl K9 (by decide) (by decide)
  refine w_strEq w hwE (hw _ (List.mem_of_getElem? (i := 11) rfl)) (hw _ (List.mem_of_getElem? (i := 37) rfl)) (hw _ (List.mem_of_getElem? (i := 38) rfl)) (hw _ (List.mem_of_getElem? (i := 40) rfl)) (hw _ (List.mem_of_getElem? (i := 39) rfl)) (Sx.ext E5) F11 SC hz (hb hby dasks_3) (by rw [hml]; rfl) (W := 0) (Nat.le_of_eq rfl) (by decide) (by decide) (by decide) (by decide) (pc' := 6) rfl fun T z12 w hz13 => ?_
  refine s_if_ne w (hb hby dasks_6) (by decide) (pc1 := 9) rfl (pc2 := 18) rfl (fun ct14 => ?_) (fun ct14 => ?_)
  · -- z12 = 0
    refine s_aload_n w (hb hby dasks_9) rfl rfl (pc' := 10) rfl ?_
    refine w_ldcS w hEL (text := "-h") (hw _ (List.mem_of_getElem? (i := 48) rfl)) hwA (by decide) (vs := [.int 45, .int 104]) (z := 2) (n := 8) ⟨by decide, by decide⟩ (by decide) rfl (by decide) (by decide) (hb hby dasks_10) (pc' := 12) rfl (by decide) (by decide) fun T h15 x16 t17 kb18 w E19 A20 C21 V22 K23 N24 => ?_
    have F25 : Str Z h15 x16 [45, 104] := Str.low A20 V22 C21 rfl rfl K23 (by decide) (by decide)
    refine w_strEq w hwE (hw _ (List.mem_of_getElem? (i := 11) rfl)) (hw _ (List.mem_of_getElem? (i := 37) rfl)) (hw _ (List.mem_of_getElem? (i := 38) rfl)) (hw _ (List.mem_of_getElem? (i := 40) rfl)) (hw _ (List.mem_of_getElem? (i := 39) rfl)) ((Sx.ext E5).ext E19) F25 SC hz (hb hby dasks_12) (by rw [hml]; rfl) (W := 0) (Nat.le_of_eq rfl) (by decide) (by decide) (by decide) (by decide) (pc' := 15) rfl fun T z26 w hz27 => ?_
    refine s_if_eq w (hb hby dasks_15) (by decide) (pc1 := 18) rfl (pc2 := 22) rfl (fun ct28 => ?_) (fun ct28 => ?_)
    · -- ¬ (z26 = 0)
      refine s_iconst w (hb hby dasks_18) (v := 1) rfl (pc' := 19) rfl ?_
      refine s_goto w (hb hby dasks_19) (by decide) (pc' := 23) rfl ?_
      refine w_ireturn w hEL hs hlk hret rfl (Or.inr (Or.inl rfl)) (hb hby dasks_23) (by decide) (by decide) ?_
      have e0 := hz13.elim (fun q => absurd (q.1.symm.trans ct14) (by decide)) (fun q => q.2)
      have e1 := hz27.elim (fun q => q.2) (fun q => absurd q.1 ct28)
      rw [if_pos (Or.inr e1)]
    · -- z26 = 0
      refine s_iconst w (hb hby dasks_22) (v := 0) rfl (pc' := 23) rfl ?_
      refine w_ireturn w hEL hs hlk hret rfl (Or.inr (Or.inl rfl)) (hb hby dasks_23) (by decide) (by decide) ?_
      have e0 := hz13.elim (fun q => absurd (q.1.symm.trans ct14) (by decide)) (fun q => q.2)
      have e1 := hz27.elim (fun q => absurd (q.1.symm.trans ct28) (by decide)) (fun q => q.2)
      rw [if_neg fun q => q.elim e0 e1]
  · -- ¬ (z12 = 0)
    refine s_iconst w (hb hby dasks_18) (v := 1) rfl (pc' := 19) rfl ?_
    refine s_goto w (hb hby dasks_19) (by decide) (pc' := 23) rfl ?_
    refine w_ireturn w hEL hs hlk hret rfl (Or.inr (Or.inl rfl)) (hb hby dasks_23) (by decide) (by decide) ?_
    have e0 := hz13.elim (fun q => q.2) (fun q => absurd q.1 ct14)
    rw [if_pos (Or.inl e0)]
theorem strL_long {n c0 c1 c2 c3 c4 c5 c6 : Int32} : strL n c0 c1 c2 c3 c4 c5 c6 = [45, 45, 104, 101, 108, 112] ↔ n = 6 ∧ c0 = 45 ∧ c1 = 45 ∧ c2 = 104 ∧ c3 = 101 ∧ c4 = 108 ∧ c5 = 112 := by
  by_cases h0 : n = 0
  · subst h0; simp +decide [strL]
  by_cases h1 : n = 1
  · subst h1; simp +decide [strL]
  by_cases h2 : n = 2
  · subst h2; simp +decide [strL]
  by_cases h3 : n = 3
  · subst h3; simp +decide [strL]
  by_cases h4 : n = 4
  · subst h4; simp +decide [strL]
  by_cases h5 : n = 5
  · subst h5; simp +decide [strL]
  by_cases h6 : n = 6
  · subst h6; simp +decide [strL]
  simp +decide [strL, h0, h1, h2, h3, h4, h5, h6]
theorem strL_short {n c0 c1 c2 c3 c4 c5 c6 : Int32} : strL n c0 c1 c2 c3 c4 c5 c6 = [45, 104] ↔ n = 2 ∧ c0 = 45 ∧ c1 = 104 := by
  by_cases h0 : n = 0
  · subst h0; simp +decide [strL]
  by_cases h1 : n = 1
  · subst h1; simp +decide [strL]
  by_cases h2 : n = 2
  · subst h2; simp +decide [strL]
  by_cases h3 : n = 3
  · subst h3; simp +decide [strL]
  by_cases h4 : n = 4
  · subst h4; simp +decide [strL]
  by_cases h5 : n = 5
  · subst h5; simp +decide [strL]
  by_cases h6 : n = 6
  · subst h6; simp +decide [strL]
  simp +decide [strL, h0, h1, h2, h3, h4, h5, h6]
theorem ef_law (m : MethodId) (p0 : Int32) (p1 : Int32) (p2 : Int32) (p3 : Int32) (p4 : Int32) : entryFrame m #[.int p0, .int p1, .int p2, .int p3, .int p4] maxLocals = mkF m 0 #[.val (.int p0), .val (.int p1), .val (.int p2), .val (.int p3), .val (.int p4), .unset, .unset, .unset, .unset, .unset, .unset, .unset, .unset, .unset, .unset, .unset, .unset, .unset, .unset, .unset] [] := by first | (simp [entryFrame, mkF, argsToLocals, Value.category, maxLocals]; done) | rfl
set_option maxRecDepth 65536 in
set_option maxHeartbeats 40000000 in
theorem rm_law {l : Launch} {Z : State} {a0 : Array Value} {zc : Int32}  (G : Gl Z a0 zc ) (h : Heap) (p0 : Int32) (p1 : Int32) (p2 : Int32) (p3 : Int32) (p4 : Int32)  :
    Met l Z consts_1 x code maxLocals ret room_1 #[.int p0, .int p1, .int p2, .int p3, .int p4] h [] [] (fun v h' => v = some (.int 1)) := by
  have G0 := G
  obtain ⟨hw, hEL, SC, hz, SA, SH, SL⟩ := G
  have hw1 : ∀ d ∈ StrChars.Road.words, d.before a0 Z = true := fun d q => hw d (sub1 d q)
  have hwA : ∀ d ∈ Bundle.stringAtoms, d.before a0 Z = true := fun d q => hw d (subA d q)
  have hw2 : ∀ d ∈ wordsS, d.before a0 Z = true := fun d q => hw d (sub2 d q)
  have hwE : ∀ d ∈ StrChars.Road.wordsEq, d.before a0 Z = true := fun d q => hw d (subE d q)
  refine Met.of (plainFor_of_name pn_2) ?_
  intro p e s m below meth c T hnm hret hlk hby hml hs w
  have hZ0 := w.old
  refine Run.cast (ef_law m p0 p1 p2 p3 p4) ?_
  refine s_iload_n w (hb hby at_0) rfl (pc' := 1) rfl ?_
  refine s_iconst w (hb hby at_1) (v := 3) rfl (pc' := 2) rfl ?_
  refine s_iand w (hb hby at_2) (pc' := 3) rfl ?_
  generalize hv1 : ((p0 &&& 3) : Int32) = v1
  refine s_istore w #[.val (.int p0), .val (.int p1), .val (.int p2), .val (.int p3), .val (.int p4), .val (.int v1), .unset, .unset, .unset, .unset, .unset, .unset, .unset, .unset, .unset, .unset, .unset, .unset, .unset, .unset] (hb hby at_3) rfl (pc' := 5) rfl ?_
  refine s_iload_n w (hb hby at_5) rfl (pc' := 6) rfl ?_
  refine s_iconst w (hb hby at_6) (v := 2) rfl (pc' := 7) rfl ?_
  refine s_iushr w (hb hby at_7) (pc' := 8) rfl ?_
  refine s_iconst w (hb hby at_8) (v := 1) rfl (pc' := 9) rfl ?_
  refine s_iand w (hb hby at_9) (pc' := 10) rfl ?_
  refine Run.joinW w (α := Int32) (C := fun pb => True) (F := fun pb => (mkF m 18 #[.val (.int p0), .val (.int p1), .val (.int p2), .val (.int p3), .val (.int p4), .val (.int v1), .unset, .unset, .unset, .unset, .unset, .unset, .unset, .unset, .unset, .unset, .unset, .unset, .unset, .unset] [.int pb])) (fun T pb w hpb => ?_) (fun J2 => ?_)
  · show Run p e below _ T (mkF m 18 #[.val (.int p0), .val (.int p1), .val (.int p2), .val (.int p3), .val (.int p4), .val (.int v1), .unset, .unset, .unset, .unset, .unset, .unset, .unset, .unset, .unset, .unset, .unset, .unset, .unset, .unset] [.int pb])
    refine s_istore w #[.val (.int p0), .val (.int p1), .val (.int p2), .val (.int p3), .val (.int p4), .val (.int v1), .val (.int pb), .unset, .unset, .unset, .unset, .unset, .unset, .unset, .unset, .unset, .unset, .unset, .unset, .unset] (hb hby at_18) rfl (pc' := 20) rfl ?_
    refine s_iload_n w (hb hby at_20) rfl (pc' := 21) rfl ?_
    refine s_iconst w (hb hby at_21) (v := 3) rfl (pc' := 22) rfl ?_
    refine s_iushr w (hb hby at_22) (pc' := 23) rfl ?_
    refine s_bipush w (hb hby at_23) (v := 7) rfl (pc' := 25) rfl ?_
    refine s_iand w (hb hby at_25) (pc' := 26) rfl ?_
    generalize hv3 : (((XT.ushr p0 3) &&& 7) : Int32) = v3
    refine s_istore w #[.val (.int p0), .val (.int p1), .val (.int p2), .val (.int p3), .val (.int p4), .val (.int v1), .val (.int pb), .val (.int v3), .unset, .unset, .unset, .unset, .unset, .unset, .unset, .unset, .unset, .unset, .unset, .unset] (hb hby at_26) rfl (pc' := 28) rfl ?_
    refine s_iload_n w (hb hby at_28) rfl (pc' := 29) rfl ?_
    refine s_bipush w (hb hby at_29) (v := 7) rfl (pc' := 31) rfl ?_
    refine s_iand w (hb hby at_31) (pc' := 32) rfl ?_
    generalize hv4 : ((p1 &&& 7) : Int32) = v4
    refine s_istore w #[.val (.int p0), .val (.int p1), .val (.int p2), .val (.int p3), .val (.int p4), .val (.int v1), .val (.int pb), .val (.int v3), .val (.int v4), .unset, .unset, .unset, .unset, .unset, .unset, .unset, .unset, .unset, .unset, .unset] (hb hby at_32) rfl (pc' := 34) rfl ?_
    refine s_iload w (hb hby at_34) rfl (pc' := 36) rfl ?_
    refine s_iconst w (hb hby at_36) (v := 0) rfl (pc' := 37) rfl ?_
    refine s_iload_n w (hb hby at_37) rfl (pc' := 38) rfl ?_
    refine s_iload w (hb hby at_38) rfl (pc' := 40) rfl ?_
    refine s_iload w (hb hby at_40) rfl (pc' := 42) rfl ?_
    refine s_iload w (hb hby at_42) rfl (pc' := 44) rfl ?_
    refine s_iload_n w (hb hby at_44) rfl (pc' := 45) rfl ?_
    refine w_static w hEL (y := (⟨"com/example/benchwire/benchwire/cli/HelpAsksPinLaw", "pick", "(IIIIZII)C"⟩ : MethodName)) (hw _ (List.mem_of_getElem? (i := 0) rfl)) (hw _ (List.mem_of_getElem? (i := 1) rfl)) (hw _ (List.mem_of_getElem? (i := 2) rfl)) (hw _ (List.mem_of_getElem? (i := 3) rfl)) (by decide) (rm_pick G0 h v1 0 p3 p4 pb v4 p2) all0 all0 (argsL := [.int v1, .int 0, .int p3, .int p4, .int pb, .int v4, .int p2]) (rest := []) (lenOf (by decide +kernel : parseMethodDescriptor "(IIIIZII)C" = some ⟨[.int, .int, .int, .int, .boolean, .int, .int], (some .char)⟩) rfl) rfl rfl (hb hby at_45) (by rw [hml]; rfl) (W := 0) (Nat.le_of_eq rfl) (by decide) (by decide) (by decide) (by decide) (pc' := 48) rfl fun u5 T h6 w K7 P8 => ?_
    obtain ⟨q9, rfl, rfl, lq9⟩ := P8
    show Run p e below _ T (mkF m 48 #[.val (.int p0), .val (.int p1), .val (.int p2), .val (.int p3), .val (.int p4), .val (.int v1), .val (.int pb), .val (.int v3), .val (.int v4), .unset, .unset, .unset, .unset, .unset, .unset, .unset, .unset, .unset, .unset, .unset] [.int q9])
    refine s_istore w #[.val (.int p0), .val (.int p1), .val (.int p2), .val (.int p3), .val (.int p4), .val (.int v1), .val (.int pb), .val (.int v3), .val (.int v4), .val (.int q9), .unset, .unset, .unset, .unset, .unset, .unset, .unset, .unset, .unset, .unset] (hb hby at_48) rfl (pc' := 50) rfl ?_
    refine s_iload w (hb hby at_50) rfl (pc' := 52) rfl ?_
    refine s_iconst w (hb hby at_52) (v := 1) rfl (pc' := 53) rfl ?_
    refine s_iload_n w (hb hby at_53) rfl (pc' := 54) rfl ?_
    refine s_iload w (hb hby at_54) rfl (pc' := 56) rfl ?_
    refine s_iload w (hb hby at_56) rfl (pc' := 58) rfl ?_
    refine s_iload w (hb hby at_58) rfl (pc' := 60) rfl ?_
    refine s_iload_n w (hb hby at_60) rfl (pc' := 61) rfl ?_
    refine w_static w hEL (y := (⟨"com/example/benchwire/benchwire/cli/HelpAsksPinLaw", "pick", "(IIIIZII)C"⟩ : MethodName)) (hw _ (List.mem_of_getElem? (i := 0) rfl)) (hw _ (List.mem_of_getElem? (i := 1) rfl)) (hw _ (List.mem_of_getElem? (i := 2) rfl)) (hw _ (List.mem_of_getElem? (i := 3) rfl)) (by decide) (rm_pick G0 h v1 1 p3 p4 pb v4 p2) all0 all0 (argsL := [.int v1, .int 1, .int p3, .int p4, .int pb, .int v4, .int p2]) (rest := []) (lenOf (by decide +kernel : parseMethodDescriptor "(IIIIZII)C" = some ⟨[.int, .int, .int, .int, .boolean, .int, .int], (some .char)⟩) rfl) rfl rfl (hb hby at_61) (by rw [hml]; rfl) (W := 0) (Nat.le_of_eq rfl) (by decide) (by decide) (by decide) (by decide) (pc' := 64) rfl fun u10 T h11 w K12 P13 => ?_
    obtain ⟨q14, rfl, rfl, lq14⟩ := P13
    show Run p e below _ T (mkF m 64 #[.val (.int p0), .val (.int p1), .val (.int p2), .val (.int p3), .val (.int p4), .val (.int v1), .val (.int pb), .val (.int v3), .val (.int v4), .val (.int q9), .unset, .unset, .unset, .unset, .unset, .unset, .unset, .unset, .unset, .unset] [.int q14])
    refine s_istore w #[.val (.int p0), .val (.int p1), .val (.int p2), .val (.int p3), .val (.int p4), .val (.int v1), .val (.int pb), .val (.int v3), .val (.int v4), .val (.int q9), .val (.int q14), .unset, .unset, .unset, .unset, .unset, .unset, .unset, .unset, .unset] (hb hby at_64) rfl (pc' := 66) rfl ?_
    refine s_iload w (hb hby at_66) rfl (pc' := 68) rfl ?_
    refine s_iconst w (hb hby at_68) (v := 2) rfl (pc' := 69) rfl ?_
    refine s_iload_n w (hb hby at_69) rfl (pc' := 70) rfl ?_
    refine s_iload w (hb hby at_70) rfl (pc' := 72) rfl ?_
    refine s_iload w (hb hby at_72) rfl (pc' := 74) rfl ?_
    refine s_iload w (hb hby at_74) rfl (pc' := 76) rfl ?_
    refine s_iload_n w (hb hby at_76) rfl (pc' := 77) rfl ?_
    refine w_static w hEL (y := (⟨"com/example/benchwire/benchwire/cli/HelpAsksPinLaw", "pick", "(IIIIZII)C"⟩ : MethodName)) (hw _ (List.mem_of_getElem? (i := 0) rfl)) (hw _ (List.mem_of_getElem? (i := 1) rfl)) (hw _ (List.mem_of_getElem? (i := 2) rfl)) (hw _ (List.mem_of_getElem? (i := 3) rfl)) (by decide) (rm_pick G0 h v1 2 p3 p4 pb v4 p2) all0 all0 (argsL := [.int v1, .int 2, .int p3, .int p4, .int pb, .int v4, .int p2]) (rest := []) (lenOf (by decide +kernel : parseMethodDescriptor "(IIIIZII)C" = some ⟨[.int, .int, .int, .int, .boolean, .int, .int], (some .char)⟩) rfl) rfl rfl (hb hby at_77) (by rw [hml]; rfl) (W := 0) (Nat.le_of_eq rfl) (by decide) (by decide) (by decide) (by decide) (pc' := 80) rfl fun u15 T h16 w K17 P18 => ?_
    obtain ⟨q19, rfl, rfl, lq19⟩ := P18
    show Run p e below _ T (mkF m 80 #[.val (.int p0), .val (.int p1), .val (.int p2), .val (.int p3), .val (.int p4), .val (.int v1), .val (.int pb), .val (.int v3), .val (.int v4), .val (.int q9), .val (.int q14), .unset, .unset, .unset, .unset, .unset, .unset, .unset, .unset, .unset] [.int q19])
    refine s_istore w #[.val (.int p0), .val (.int p1), .val (.int p2), .val (.int p3), .val (.int p4), .val (.int v1), .val (.int pb), .val (.int v3), .val (.int v4), .val (.int q9), .val (.int q14), .val (.int q19), .unset, .unset, .unset, .unset, .unset, .unset, .unset, .unset] (hb hby at_80) rfl (pc' := 82) rfl ?_
    refine s_iload w (hb hby at_82) rfl (pc' := 84) rfl ?_
    refine s_iconst w (hb hby at_84) (v := 3) rfl (pc' := 85) rfl ?_
    refine s_iload_n w (hb hby at_85) rfl (pc' := 86) rfl ?_
    refine s_iload w (hb hby at_86) rfl (pc' := 88) rfl ?_
    refine s_iload w (hb hby at_88) rfl (pc' := 90) rfl ?_
    refine s_iload w (hb hby at_90) rfl (pc' := 92) rfl ?_
    refine s_iload_n w (hb hby at_92) rfl (pc' := 93) rfl ?_
    refine w_static w hEL (y := (⟨"com/example/benchwire/benchwire/cli/HelpAsksPinLaw", "pick", "(IIIIZII)C"⟩ : MethodName)) (hw _ (List.mem_of_getElem? (i := 0) rfl)) (hw _ (List.mem_of_getElem? (i := 1) rfl)) (hw _ (List.mem_of_getElem? (i := 2) rfl)) (hw _ (List.mem_of_getElem? (i := 3) rfl)) (by decide) (rm_pick G0 h v1 3 p3 p4 pb v4 p2) all0 all0 (argsL := [.int v1, .int 3, .int p3, .int p4, .int pb, .int v4, .int p2]) (rest := []) (lenOf (by decide +kernel : parseMethodDescriptor "(IIIIZII)C" = some ⟨[.int, .int, .int, .int, .boolean, .int, .int], (some .char)⟩) rfl) rfl rfl (hb hby at_93) (by rw [hml]; rfl) (W := 0) (Nat.le_of_eq rfl) (by decide) (by decide) (by decide) (by decide) (pc' := 96) rfl fun u20 T h21 w K22 P23 => ?_
    obtain ⟨q24, rfl, rfl, lq24⟩ := P23
    show Run p e below _ T (mkF m 96 #[.val (.int p0), .val (.int p1), .val (.int p2), .val (.int p3), .val (.int p4), .val (.int v1), .val (.int pb), .val (.int v3), .val (.int v4), .val (.int q9), .val (.int q14), .val (.int q19), .unset, .unset, .unset, .unset, .unset, .unset, .unset, .unset] [.int q24])
    refine s_istore w #[.val (.int p0), .val (.int p1), .val (.int p2), .val (.int p3), .val (.int p4), .val (.int v1), .val (.int pb), .val (.int v3), .val (.int v4), .val (.int q9), .val (.int q14), .val (.int q19), .val (.int q24), .unset, .unset, .unset, .unset, .unset, .unset, .unset] (hb hby at_96) rfl (pc' := 98) rfl ?_
    refine s_iload w (hb hby at_98) rfl (pc' := 100) rfl ?_
    refine s_iconst w (hb hby at_100) (v := 4) rfl (pc' := 101) rfl ?_
    refine s_iload_n w (hb hby at_101) rfl (pc' := 102) rfl ?_
    refine s_iload w (hb hby at_102) rfl (pc' := 104) rfl ?_
    refine s_iload w (hb hby at_104) rfl (pc' := 106) rfl ?_
    refine s_iload w (hb hby at_106) rfl (pc' := 108) rfl ?_
    refine s_iload_n w (hb hby at_108) rfl (pc' := 109) rfl ?_
    refine w_static w hEL (y := (⟨"com/example/benchwire/benchwire/cli/HelpAsksPinLaw", "pick", "(IIIIZII)C"⟩ : MethodName)) (hw _ (List.mem_of_getElem? (i := 0) rfl)) (hw _ (List.mem_of_getElem? (i := 1) rfl)) (hw _ (List.mem_of_getElem? (i := 2) rfl)) (hw _ (List.mem_of_getElem? (i := 3) rfl)) (by decide) (rm_pick G0 h v1 4 p3 p4 pb v4 p2) all0 all0 (argsL := [.int v1, .int 4, .int p3, .int p4, .int pb, .int v4, .int p2]) (rest := []) (lenOf (by decide +kernel : parseMethodDescriptor "(IIIIZII)C" = some ⟨[.int, .int, .int, .int, .boolean, .int, .int], (some .char)⟩) rfl) rfl rfl (hb hby at_109) (by rw [hml]; rfl) (W := 0) (Nat.le_of_eq rfl) (by decide) (by decide) (by decide) (by decide) (pc' := 112) rfl fun u25 T h26 w K27 P28 => ?_
    obtain ⟨q29, rfl, rfl, lq29⟩ := P28
    show Run p e below _ T (mkF m 112 #[.val (.int p0), .val (.int p1), .val (.int p2), .val (.int p3), .val (.int p4), .val (.int v1), .val (.int pb), .val (.int v3), .val (.int v4), .val (.int q9), .val (.int q14), .val (.int q19), .val (.int q24), .unset, .unset, .unset, .unset, .unset, .unset, .unset] [.int q29])
    refine s_istore w #[.val (.int p0), .val (.int p1), .val (.int p2), .val (.int p3), .val (.int p4), .val (.int v1), .val (.int pb), .val (.int v3), .val (.int v4), .val (.int q9), .val (.int q14), .val (.int q19), .val (.int q24), .val (.int q29), .unset, .unset, .unset, .unset, .unset, .unset] (hb hby at_112) rfl (pc' := 114) rfl ?_
    refine s_iload w (hb hby at_114) rfl (pc' := 116) rfl ?_
    refine s_iconst w (hb hby at_116) (v := 5) rfl (pc' := 117) rfl ?_
    refine s_iload_n w (hb hby at_117) rfl (pc' := 118) rfl ?_
    refine s_iload w (hb hby at_118) rfl (pc' := 120) rfl ?_
    refine s_iload w (hb hby at_120) rfl (pc' := 122) rfl ?_
    refine s_iload w (hb hby at_122) rfl (pc' := 124) rfl ?_
    refine s_iload_n w (hb hby at_124) rfl (pc' := 125) rfl ?_
    refine w_static w hEL (y := (⟨"com/example/benchwire/benchwire/cli/HelpAsksPinLaw", "pick", "(IIIIZII)C"⟩ : MethodName)) (hw _ (List.mem_of_getElem? (i := 0) rfl)) (hw _ (List.mem_of_getElem? (i := 1) rfl)) (hw _ (List.mem_of_getElem? (i := 2) rfl)) (hw _ (List.mem_of_getElem? (i := 3) rfl)) (by decide) (rm_pick G0 h v1 5 p3 p4 pb v4 p2) all0 all0 (argsL := [.int v1, .int 5, .int p3, .int p4, .int pb, .int v4, .int p2]) (rest := []) (lenOf (by decide +kernel : parseMethodDescriptor "(IIIIZII)C" = some ⟨[.int, .int, .int, .int, .boolean, .int, .int], (some .char)⟩) rfl) rfl rfl (hb hby at_125) (by rw [hml]; rfl) (W := 0) (Nat.le_of_eq rfl) (by decide) (by decide) (by decide) (by decide) (pc' := 128) rfl fun u30 T h31 w K32 P33 => ?_
    obtain ⟨q34, rfl, rfl, lq34⟩ := P33
    show Run p e below _ T (mkF m 128 #[.val (.int p0), .val (.int p1), .val (.int p2), .val (.int p3), .val (.int p4), .val (.int v1), .val (.int pb), .val (.int v3), .val (.int v4), .val (.int q9), .val (.int q14), .val (.int q19), .val (.int q24), .val (.int q29), .unset, .unset, .unset, .unset, .unset, .unset] [.int q34])
    refine s_istore w #[.val (.int p0), .val (.int p1), .val (.int p2), .val (.int p3), .val (.int p4), .val (.int v1), .val (.int pb), .val (.int v3), .val (.int v4), .val (.int q9), .val (.int q14), .val (.int q19), .val (.int q24), .val (.int q29), .val (.int q34), .unset, .unset, .unset, .unset, .unset] (hb hby at_128) rfl (pc' := 130) rfl ?_
    refine s_iload w (hb hby at_130) rfl (pc' := 132) rfl ?_
    refine s_bipush w (hb hby at_132) (v := 6) rfl (pc' := 134) rfl ?_
    refine s_iload_n w (hb hby at_134) rfl (pc' := 135) rfl ?_
    refine s_iload w (hb hby at_135) rfl (pc' := 137) rfl ?_
    refine s_iload w (hb hby at_137) rfl (pc' := 139) rfl ?_
    refine s_iload w (hb hby at_139) rfl (pc' := 141) rfl ?_
    refine s_iload_n w (hb hby at_141) rfl (pc' := 142) rfl ?_
    refine w_static w hEL (y := (⟨"com/example/benchwire/benchwire/cli/HelpAsksPinLaw", "pick", "(IIIIZII)C"⟩ : MethodName)) (hw _ (List.mem_of_getElem? (i := 0) rfl)) (hw _ (List.mem_of_getElem? (i := 1) rfl)) (hw _ (List.mem_of_getElem? (i := 2) rfl)) (hw _ (List.mem_of_getElem? (i := 3) rfl)) (by decide) (rm_pick G0 h v1 6 p3 p4 pb v4 p2) all0 all0 (argsL := [.int v1, .int 6, .int p3, .int p4, .int pb, .int v4, .int p2]) (rest := []) (lenOf (by decide +kernel : parseMethodDescriptor "(IIIIZII)C" = some ⟨[.int, .int, .int, .int, .boolean, .int, .int], (some .char)⟩) rfl) rfl rfl (hb hby at_142) (by rw [hml]; rfl) (W := 0) (Nat.le_of_eq rfl) (by decide) (by decide) (by decide) (by decide) (pc' := 145) rfl fun u35 T h36 w K37 P38 => ?_
    obtain ⟨q39, rfl, rfl, lq39⟩ := P38
    show Run p e below _ T (mkF m 145 #[.val (.int p0), .val (.int p1), .val (.int p2), .val (.int p3), .val (.int p4), .val (.int v1), .val (.int pb), .val (.int v3), .val (.int v4), .val (.int q9), .val (.int q14), .val (.int q19), .val (.int q24), .val (.int q29), .val (.int q34), .unset, .unset, .unset, .unset, .unset] [.int q39])
    refine s_istore w #[.val (.int p0), .val (.int p1), .val (.int p2), .val (.int p3), .val (.int p4), .val (.int v1), .val (.int pb), .val (.int v3), .val (.int v4), .val (.int q9), .val (.int q14), .val (.int q19), .val (.int q24), .val (.int q29), .val (.int q34), .val (.int q39), .unset, .unset, .unset, .unset] (hb hby at_145) rfl (pc' := 147) rfl ?_
    refine s_iload w (hb hby at_147) rfl (pc' := 149) rfl ?_
    refine s_iload w (hb hby at_149) rfl (pc' := 151) rfl ?_
    refine s_iload w (hb hby at_151) rfl (pc' := 153) rfl ?_
    refine s_iload w (hb hby at_153) rfl (pc' := 155) rfl ?_
    refine s_iload w (hb hby at_155) rfl (pc' := 157) rfl ?_
    refine s_iload w (hb hby at_157) rfl (pc' := 159) rfl ?_
    refine s_iload w (hb hby at_159) rfl (pc' := 161) rfl ?_
    refine s_iload w (hb hby at_161) rfl (pc' := 163) rfl ?_
    refine w_static w hEL (y := (⟨"com/example/benchwire/benchwire/cli/HelpAsksPinLaw", "make", "(ICCCCCCC)Ljava/lang/String;"⟩ : MethodName)) (hw _ (List.mem_of_getElem? (i := 7) rfl)) (hw _ (List.mem_of_getElem? (i := 8) rfl)) (hw _ (List.mem_of_getElem? (i := 2) rfl)) (hw _ (List.mem_of_getElem? (i := 9) rfl)) (by decide) (rm_make G0 h v3 q9 q14 q19 q24 q29 q34 q39 lq9 lq14 lq19 lq24 lq29 lq34 lq39) all0 all0 (argsL := [.int v3, .int q9, .int q14, .int q19, .int q24, .int q29, .int q34, .int q39]) (rest := []) (lenOf (by decide +kernel : parseMethodDescriptor "(ICCCCCCC)Ljava/lang/String;" = some ⟨[.int, .char, .char, .char, .char, .char, .char, .char], (some (.object "java/lang/String"))⟩) rfl) rfl rfl (hb hby at_163) (by rw [hml]; rfl) (W := 0) (Nat.le_of_eq rfl) (by decide) (by decide) (by decide) (by decide) (pc' := 166) rfl fun u40 T h41 w K42 P43 => ?_
    obtain ⟨s44, rfl, F45⟩ := P43
    have E46 := Keep.ext0 K42
    show Run p e below _ T (mkF m 166 #[.val (.int p0), .val (.int p1), .val (.int p2), .val (.int p3), .val (.int p4), .val (.int v1), .val (.int pb), .val (.int v3), .val (.int v4), .val (.int q9), .val (.int q14), .val (.int q19), .val (.int q24), .val (.int q29), .val (.int q34), .val (.int q39), .unset, .unset, .unset, .unset] [.ref s44])
    refine s_astore w #[.val (.int p0), .val (.int p1), .val (.int p2), .val (.int p3), .val (.int p4), .val (.int v1), .val (.int pb), .val (.int v3), .val (.int v4), .val (.int q9), .val (.int q14), .val (.int q19), .val (.int q24), .val (.int q29), .val (.int q34), .val (.int q39), .val (.ref s44), .unset, .unset, .unset] (hb hby at_166) rfl rfl (pc' := 168) rfl ?_
    refine s_iload w (hb hby at_168) rfl (pc' := 170) rfl ?_
    refine s_bipush w (hb hby at_170) (v := 6) rfl (pc' := 172) rfl ?_
    refine Run.joinW w (α := Int32) (C := fun e1 => (e1 = 1 ∧ (v3 = 6 ∧ q9 = 45 ∧ q14 = 45 ∧ q19 = 104 ∧ q24 = 101 ∧ q29 = 108 ∧ q34 = 112)) ∨ (e1 = 0 ∧ ¬ (v3 = 6 ∧ q9 = 45 ∧ q14 = 45 ∧ q19 = 104 ∧ q24 = 101 ∧ q29 = 108 ∧ q34 = 112))) (F := fun e1 => (mkF m 222 #[.val (.int p0), .val (.int p1), .val (.int p2), .val (.int p3), .val (.int p4), .val (.int v1), .val (.int pb), .val (.int v3), .val (.int v4), .val (.int q9), .val (.int q14), .val (.int q19), .val (.int q24), .val (.int q29), .val (.int q34), .val (.int q39), .val (.ref s44), .unset, .unset, .unset] [.int e1])) (fun T e1 w he1 => ?_) (fun J47 => ?_)
    · show Run p e below _ T (mkF m 222 #[.val (.int p0), .val (.int p1), .val (.int p2), .val (.int p3), .val (.int p4), .val (.int v1), .val (.int pb), .val (.int v3), .val (.int v4), .val (.int q9), .val (.int q14), .val (.int q19), .val (.int q24), .val (.int q29), .val (.int q34), .val (.int q39), .val (.ref s44), .unset, .unset, .unset] [.int e1])
      refine s_istore w #[.val (.int p0), .val (.int p1), .val (.int p2), .val (.int p3), .val (.int p4), .val (.int v1), .val (.int pb), .val (.int v3), .val (.int v4), .val (.int q9), .val (.int q14), .val (.int q19), .val (.int q24), .val (.int q29), .val (.int q34), .val (.int q39), .val (.ref s44), .val (.int e1), .unset, .unset] (hb hby at_222) rfl (pc' := 224) rfl ?_
      refine s_iload w (hb hby at_224) rfl (pc' := 226) rfl ?_
      refine s_iconst w (hb hby at_226) (v := 2) rfl (pc' := 227) rfl ?_
      refine Run.joinW w (α := Int32) (C := fun e2 => (e2 = 1 ∧ (v3 = 2 ∧ q9 = 45 ∧ q14 = 104)) ∨ (e2 = 0 ∧ ¬ (v3 = 2 ∧ q9 = 45 ∧ q14 = 104))) (F := fun e2 => (mkF m 249 #[.val (.int p0), .val (.int p1), .val (.int p2), .val (.int p3), .val (.int p4), .val (.int v1), .val (.int pb), .val (.int v3), .val (.int v4), .val (.int q9), .val (.int q14), .val (.int q19), .val (.int q24), .val (.int q29), .val (.int q34), .val (.int q39), .val (.ref s44), .val (.int e1), .unset, .unset] [.int e2])) (fun T e2 w he2 => ?_) (fun J48 => ?_)
      · show Run p e below _ T (mkF m 249 #[.val (.int p0), .val (.int p1), .val (.int p2), .val (.int p3), .val (.int p4), .val (.int v1), .val (.int pb), .val (.int v3), .val (.int v4), .val (.int q9), .val (.int q14), .val (.int q19), .val (.int q24), .val (.int q29), .val (.int q34), .val (.int q39), .val (.ref s44), .val (.int e1), .unset, .unset] [.int e2])
        refine s_istore w #[.val (.int p0), .val (.int p1), .val (.int p2), .val (.int p3), .val (.int p4), .val (.int v1), .val (.int pb), .val (.int v3), .val (.int v4), .val (.int q9), .val (.int q14), .val (.int q19), .val (.int q24), .val (.int q29), .val (.int q34), .val (.int q39), .val (.ref s44), .val (.int e1), .val (.int e2), .unset] (hb hby at_249) rfl (pc' := 251) rfl ?_
        refine s_iload w (hb hby at_251) rfl (pc' := 253) rfl ?_
        refine Run.joinW w (α := Int32) (C := fun e3 => (e3 = 1 ∧ (¬ e1 = 0 ∨ ¬ e2 = 0)) ∨ (e3 = 0 ∧ ¬ (¬ e1 = 0 ∨ ¬ e2 = 0))) (F := fun e3 => (mkF m 266 #[.val (.int p0), .val (.int p1), .val (.int p2), .val (.int p3), .val (.int p4), .val (.int v1), .val (.int pb), .val (.int v3), .val (.int v4), .val (.int q9), .val (.int q14), .val (.int q19), .val (.int q24), .val (.int q29), .val (.int q34), .val (.int q39), .val (.ref s44), .val (.int e1), .val (.int e2), .unset] [.int e3])) (fun T e3 w he3 => ?_) (fun J49 => ?_)
        · show Run p e below _ T (mkF m 266 #[.val (.int p0), .val (.int p1), .val (.int p2), .val (.int p3), .val (.int p4), .val (.int v1), .val (.int pb), .val (.int v3), .val (.int v4), .val (.int q9), .val (.int q14), .val (.int q19), .val (.int q24), .val (.int q29), .val (.int q34), .val (.int q39), .val (.ref s44), .val (.int e1), .val (.int e2), .unset] [.int e3])
          refine s_istore w #[.val (.int p0), .val (.int p1), .val (.int p2), .val (.int p3), .val (.int p4), .val (.int v1), .val (.int pb), .val (.int v3), .val (.int v4), .val (.int q9), .val (.int q14), .val (.int q19), .val (.int q24), .val (.int q29), .val (.int q34), .val (.int q39), .val (.ref s44), .val (.int e1), .val (.int e2), .val (.int e3)] (hb hby at_266) rfl (pc' := 268) rfl ?_
          refine s_aload w (hb hby at_268) rfl rfl (pc' := 270) rfl ?_
          refine w_static w hEL (y := (⟨"com/example/benchwire/benchwire/cli/Help", "asks", "(Ljava/lang/String;)Z"⟩ : MethodName)) (hw _ (List.mem_of_getElem? (i := 32) rfl)) (hw _ (List.mem_of_getElem? (i := 33) rfl)) (hw _ (List.mem_of_getElem? (i := 34) rfl)) (hw _ (List.mem_of_getElem? (i := 35) rfl)) (by decide) (rm_asks G0 h41 s44 _ F45) all0 all0 (argsL := [.ref s44]) (rest := []) (lenOf (by decide +kernel : parseMethodDescriptor "(Ljava/lang/String;)Z" = some ⟨[(.object "java/lang/String")], (some .boolean)⟩) rfl) rfl rfl (hb hby at_270) (by rw [hml]; rfl) (W := 0) (Nat.le_of_eq rfl) (by decide) (by decide) (by decide) (by decide) (pc' := 273) rfl fun u50 T h51 w K52 P53 => ?_
          obtain rfl := P53
          have E54 := Keep.ext0 K52
          generalize hgot : (if strL v3 q9 q14 q19 q24 q29 q34 q39 = [45, 45, 104, 101, 108, 112] ∨ strL v3 q9 q14 q19 q24 q29 q34 q39 = [45, 104] then (1 : Int32) else 0) = got
          show Run p e below _ T (mkF m 273 #[.val (.int p0), .val (.int p1), .val (.int p2), .val (.int p3), .val (.int p4), .val (.int v1), .val (.int pb), .val (.int v3), .val (.int v4), .val (.int q9), .val (.int q14), .val (.int q19), .val (.int q24), .val (.int q29), .val (.int q34), .val (.int q39), .val (.ref s44), .val (.int e1), .val (.int e2), .val (.int e3)] [.int got])
          refine s_iload w (hb hby at_273) rfl (pc' := 275) rfl ?_
          refine s_icmp_ne w (hb hby at_275) (by decide) (pc1 := 278) rfl (pc2 := 282) rfl (fun ct55 => ?_) (fun ct55 => ?_)
          · -- got = e3
            refine s_iconst w (hb hby at_278) (v := 1) rfl (pc' := 279) rfl ?_
            refine s_goto w (hb hby at_279) (by decide) (pc' := 283) rfl ?_
            exact w_ireturn w hEL hs hlk hret rfl (Or.inr (Or.inl rfl)) (hb hby at_283) (by decide) (by decide) rfl
          · -- ¬ (got = e3)
            refine s_iconst w (hb hby at_282) (v := 0) rfl (pc' := 283) rfl ?_
            refine absurd (val he3 hgot ?_) ct55
            rw [flag he1, flag he2, strL_long, strL_short]
        · skip
          refine s_if_ne w (hb hby at_253) (by decide) (pc1 := 256) rfl (pc2 := 261) rfl (fun ct56 => ?_) (fun ct56 => ?_)
          · -- e1 = 0
            refine s_iload w (hb hby at_256) rfl (pc' := 258) rfl ?_
            refine s_if_eq w (hb hby at_258) (by decide) (pc1 := 261) rfl (pc2 := 265) rfl (fun ct57 => ?_) (fun ct57 => ?_)
            · -- ¬ (e2 = 0)
              refine s_iconst w (hb hby at_261) (v := 1) rfl (pc' := 262) rfl ?_
              refine s_goto w (hb hby at_262) (by decide) (pc' := 266) rfl ?_
              exact J49 _ 1 w (Or.inl ⟨rfl, (by first | exact Or.inl (by assumption) | exact Or.inr (by assumption))⟩)
            · -- e2 = 0
              refine s_iconst w (hb hby at_265) (v := 0) rfl (pc' := 266) rfl ?_
              exact J49 _ 0 w (Or.inr ⟨rfl, fun q => q.elim (fun z => z (by assumption)) (fun z => z (by assumption))⟩)
          · -- ¬ (e1 = 0)
            refine s_iconst w (hb hby at_261) (v := 1) rfl (pc' := 262) rfl ?_
            refine s_goto w (hb hby at_262) (by decide) (pc' := 266) rfl ?_
            exact J49 _ 1 w (Or.inl ⟨rfl, (by first | exact Or.inl (by assumption) | exact Or.inr (by assumption))⟩)
      · skip
        refine s_icmp_ne w (hb hby at_227) (by decide) (pc1 := 230) rfl (pc2 := 248) rfl (fun ct58 => ?_) (fun ct58 => ?_)
        · -- v3 = 2
          refine s_iload w (hb hby at_230) rfl (pc' := 232) rfl ?_
          refine s_bipush w (hb hby at_232) (v := 45) rfl (pc' := 234) rfl ?_
          refine s_icmp_ne w (hb hby at_234) (by decide) (pc1 := 237) rfl (pc2 := 248) rfl (fun ct59 => ?_) (fun ct59 => ?_)
          · -- q9 = 45
            refine s_iload w (hb hby at_237) rfl (pc' := 239) rfl ?_
            refine s_bipush w (hb hby at_239) (v := 104) rfl (pc' := 241) rfl ?_
            refine s_icmp_ne w (hb hby at_241) (by decide) (pc1 := 244) rfl (pc2 := 248) rfl (fun ct60 => ?_) (fun ct60 => ?_)
            · -- q14 = 104
              refine s_iconst w (hb hby at_244) (v := 1) rfl (pc' := 245) rfl ?_
              refine s_goto w (hb hby at_245) (by decide) (pc' := 249) rfl ?_
              exact J48 _ 1 w (Or.inl ⟨rfl, ⟨by assumption, by assumption, by assumption⟩⟩)
            · -- ¬ (q14 = 104)
              refine s_iconst w (hb hby at_248) (v := 0) rfl (pc' := 249) rfl ?_
              exact J48 _ 0 w (Or.inr ⟨rfl, fun q => by first | exact absurd q.1 (by assumption) | exact absurd q.2.1 (by assumption) | exact absurd q.2.2 (by assumption)⟩)
          · -- ¬ (q9 = 45)
            refine s_iconst w (hb hby at_248) (v := 0) rfl (pc' := 249) rfl ?_
            exact J48 _ 0 w (Or.inr ⟨rfl, fun q => by first | exact absurd q.1 (by assumption) | exact absurd q.2.1 (by assumption) | exact absurd q.2.2 (by assumption)⟩)
        · -- ¬ (v3 = 2)
          refine s_iconst w (hb hby at_248) (v := 0) rfl (pc' := 249) rfl ?_
          exact J48 _ 0 w (Or.inr ⟨rfl, fun q => by first | exact absurd q.1 (by assumption) | exact absurd q.2.1 (by assumption) | exact absurd q.2.2 (by assumption)⟩)
    · skip
      refine s_icmp_ne w (hb hby at_172) (by decide) (pc1 := 175) rfl (pc2 := 221) rfl (fun ct61 => ?_) (fun ct61 => ?_)
      · -- v3 = 6
        refine s_iload w (hb hby at_175) rfl (pc' := 177) rfl ?_
        refine s_bipush w (hb hby at_177) (v := 45) rfl (pc' := 179) rfl ?_
        refine s_icmp_ne w (hb hby at_179) (by decide) (pc1 := 182) rfl (pc2 := 221) rfl (fun ct62 => ?_) (fun ct62 => ?_)
        · -- q9 = 45
          refine s_iload w (hb hby at_182) rfl (pc' := 184) rfl ?_
          refine s_bipush w (hb hby at_184) (v := 45) rfl (pc' := 186) rfl ?_
          refine s_icmp_ne w (hb hby at_186) (by decide) (pc1 := 189) rfl (pc2 := 221) rfl (fun ct63 => ?_) (fun ct63 => ?_)
          · -- q14 = 45
            refine s_iload w (hb hby at_189) rfl (pc' := 191) rfl ?_
            refine s_bipush w (hb hby at_191) (v := 104) rfl (pc' := 193) rfl ?_
            refine s_icmp_ne w (hb hby at_193) (by decide) (pc1 := 196) rfl (pc2 := 221) rfl (fun ct64 => ?_) (fun ct64 => ?_)
            · -- q19 = 104
              refine s_iload w (hb hby at_196) rfl (pc' := 198) rfl ?_
              refine s_bipush w (hb hby at_198) (v := 101) rfl (pc' := 200) rfl ?_
              refine s_icmp_ne w (hb hby at_200) (by decide) (pc1 := 203) rfl (pc2 := 221) rfl (fun ct65 => ?_) (fun ct65 => ?_)
              · -- q24 = 101
                refine s_iload w (hb hby at_203) rfl (pc' := 205) rfl ?_
                refine s_bipush w (hb hby at_205) (v := 108) rfl (pc' := 207) rfl ?_
                refine s_icmp_ne w (hb hby at_207) (by decide) (pc1 := 210) rfl (pc2 := 221) rfl (fun ct66 => ?_) (fun ct66 => ?_)
                · -- q29 = 108
                  refine s_iload w (hb hby at_210) rfl (pc' := 212) rfl ?_
                  refine s_bipush w (hb hby at_212) (v := 112) rfl (pc' := 214) rfl ?_
                  refine s_icmp_ne w (hb hby at_214) (by decide) (pc1 := 217) rfl (pc2 := 221) rfl (fun ct67 => ?_) (fun ct67 => ?_)
                  · -- q34 = 112
                    refine s_iconst w (hb hby at_217) (v := 1) rfl (pc' := 218) rfl ?_
                    refine s_goto w (hb hby at_218) (by decide) (pc' := 222) rfl ?_
                    exact J47 _ 1 w (Or.inl ⟨rfl, ⟨by assumption, by assumption, by assumption, by assumption, by assumption, by assumption, by assumption⟩⟩)
                  · -- ¬ (q34 = 112)
                    refine s_iconst w (hb hby at_221) (v := 0) rfl (pc' := 222) rfl ?_
                    exact J47 _ 0 w (Or.inr ⟨rfl, fun q => by first | exact absurd q.1 (by assumption) | exact absurd q.2.1 (by assumption) | exact absurd q.2.2.1 (by assumption) | exact absurd q.2.2.2.1 (by assumption) | exact absurd q.2.2.2.2.1 (by assumption) | exact absurd q.2.2.2.2.2.1 (by assumption) | exact absurd q.2.2.2.2.2.2 (by assumption)⟩)
                · -- ¬ (q29 = 108)
                  refine s_iconst w (hb hby at_221) (v := 0) rfl (pc' := 222) rfl ?_
                  exact J47 _ 0 w (Or.inr ⟨rfl, fun q => by first | exact absurd q.1 (by assumption) | exact absurd q.2.1 (by assumption) | exact absurd q.2.2.1 (by assumption) | exact absurd q.2.2.2.1 (by assumption) | exact absurd q.2.2.2.2.1 (by assumption) | exact absurd q.2.2.2.2.2.1 (by assumption) | exact absurd q.2.2.2.2.2.2 (by assumption)⟩)
              · -- ¬ (q24 = 101)
                refine s_iconst w (hb hby at_221) (v := 0) rfl (pc' := 222) rfl ?_
                exact J47 _ 0 w (Or.inr ⟨rfl, fun q => by first | exact absurd q.1 (by assumption) | exact absurd q.2.1 (by assumption) | exact absurd q.2.2.1 (by assumption) | exact absurd q.2.2.2.1 (by assumption) | exact absurd q.2.2.2.2.1 (by assumption) | exact absurd q.2.2.2.2.2.1 (by assumption) | exact absurd q.2.2.2.2.2.2 (by assumption)⟩)
            · -- ¬ (q19 = 104)
              refine s_iconst w (hb hby at_221) (v := 0) rfl (pc' := 222) rfl ?_
              exact J47 _ 0 w (Or.inr ⟨rfl, fun q => by first | exact absurd q.1 (by assumption) | exact absurd q.2.1 (by assumption) | exact absurd q.2.2.1 (by assumption) | exact absurd q.2.2.2.1 (by assumption) | exact absurd q.2.2.2.2.1 (by assumption) | exact absurd q.2.2.2.2.2.1 (by assumption) | exact absurd q.2.2.2.2.2.2 (by assumption)⟩)
          · -- ¬ (q14 = 45)
            refine s_iconst w (hb hby at_221) (v := 0) rfl (pc' := 222) rfl ?_
            exact J47 _ 0 w (Or.inr ⟨rfl, fun q => by first | exact absurd q.1 (by assumption) | exact absurd q.2.1 (by assumption) | exact absurd q.2.2.1 (by assumption) | exact absurd q.2.2.2.1 (by assumption) | exact absurd q.2.2.2.2.1 (by assumption) | exact absurd q.2.2.2.2.2.1 (by assumption) | exact absurd q.2.2.2.2.2.2 (by assumption)⟩)
        · -- ¬ (q9 = 45)
          refine s_iconst w (hb hby at_221) (v := 0) rfl (pc' := 222) rfl ?_
          exact J47 _ 0 w (Or.inr ⟨rfl, fun q => by first | exact absurd q.1 (by assumption) | exact absurd q.2.1 (by assumption) | exact absurd q.2.2.1 (by assumption) | exact absurd q.2.2.2.1 (by assumption) | exact absurd q.2.2.2.2.1 (by assumption) | exact absurd q.2.2.2.2.2.1 (by assumption) | exact absurd q.2.2.2.2.2.2 (by assumption)⟩)
      · -- ¬ (v3 = 6)
        refine s_iconst w (hb hby at_221) (v := 0) rfl (pc' := 222) rfl ?_
        exact J47 _ 0 w (Or.inr ⟨rfl, fun q => by first | exact absurd q.1 (by assumption) | exact absurd q.2.1 (by assumption) | exact absurd q.2.2.1 (by assumption) | exact absurd q.2.2.2.1 (by assumption) | exact absurd q.2.2.2.2.1 (by assumption) | exact absurd q.2.2.2.2.2.1 (by assumption) | exact absurd q.2.2.2.2.2.2 (by assumption)⟩)
  · skip
    refine s_if_eq w (hb hby at_10) (by decide) (pc1 := 13) rfl (pc2 := 17) rfl (fun ct68 => ?_) (fun ct68 => ?_)
    · -- ¬ (((XT.ushr p0 2) &&& 1) = 0)
      refine s_iconst w (hb hby at_13) (v := 1) rfl (pc' := 14) rfl ?_
      refine s_goto w (hb hby at_14) (by decide) (pc' := 18) rfl ?_
      exact J2 _ 1 w trivial
    · -- ((XT.ushr p0 2) &&& 1) = 0
      refine s_iconst w (hb hby at_17) (v := 0) rfl (pc' := 18) rfl ?_
      exact J2 _ 0 w trivial
set_option maxRecDepth 65536 in
set_option maxHeartbeats 40000000 in
theorem comes_1 {Post : Tables → Env → Array Value → State → Outcome → State → Prop} (hpost : ∀ tb e args s v u, (limb_1_1.after args s (.returned v) u = true ∧ limb_1_2.after args s (.returned v) u = true ∧ True) → FramedW s (.returned v) u (Jvm.fieldLocs frame_1_writes args s ++ Jvm.arrayLocs frame_1_arrays args s ++ Jvm.staticLocs frame_1_statics s) room_1.cells room_1.slots → Post tb e args s (.returned v) u) :
    ArmFor flags0 classFile x code maxLocals ret World_1 tables_1 room_1 Calls_1 rest_1 Pre_1 Post := by
  intro l hfl _ _ p e ha hc hk s m args below hf hA hF happ hP
  obtain ⟨hcalls, hrest, hpre⟩ := hP
  obtain ⟨-, -, -, hnamed, -, -, -, hat⟩ := (Spec.applies_iff hf).mp happ
  obtain ⟨hg, hn⟩ := and_e (Cond.before_iff.mp (show (Jvm.Cond.and given_1 narrow_1).before args s = true from hpre))
  obtain ⟨hcnt, hg⟩ := and_e hg
  obtain ⟨w0, w1, w2, w3, w4, rfl⟩ : ∃ w0 w1 w2 w3 w4 : Value, args = #[w0, w1, w2, w3, w4] := by
    have hs : args.size = 5 := by simpa [Cond.value, given_1] using hcnt
    obtain ⟨L⟩ := args
    match L, hs with
    | [w0, w1, w2, w3, w4], _ => exact ⟨w0, w1, w2, w3, w4, rfl⟩
  obtain ⟨g0, hg⟩ := and_e hg
  obtain ⟨g1, hg⟩ := and_e hg
  obtain ⟨g2, hg⟩ := and_e hg
  obtain ⟨g3, hg⟩ := and_e hg
  have g4 := hg
  obtain ⟨i0, e0⟩ := is_v g0
  obtain rfl : w0 = .int i0 := Option.some.inj e0
  obtain ⟨i1, e1⟩ := is_v g1
  obtain rfl : w1 = .int i1 := Option.some.inj e1
  obtain ⟨i2, e2⟩ := is_v g2
  obtain rfl : w2 = .int i2 := Option.some.inj e2
  obtain ⟨i3, e3⟩ := is_v g3
  obtain rfl : w3 = .int i3 := Option.some.inj e3
  obtain ⟨i4, e4⟩ := is_v g4
  obtain rfl : w4 = .int i4 := Option.some.inj e4
  have hw := fun d (hd : d ∈ tables_1) => atoms_spec (ws := Jvm.Cond.code x code maxLocals ret :: tables_1) hat d (List.mem_cons_of_mem _ hd)
  have hset : ∀ d ∈ jdkStatics_1, d.before _ s = true := (atoms_of jdkStatics_1 (show (jdkStatics_1.foldr Jvm.Cond.and restOwn_1).before _ s = true from hrest)).1
  have hEL : EW s _ consts_1 := (EW.cons (hw _ (List.mem_of_getElem? (i := 36) rfl)) (by decide) (EW.cons (hw _ (List.mem_of_getElem? (i := 48) rfl)) (by decide) (EW.cons (hw _ (List.mem_of_getElem? (i := 24) rfl)) (by decide) EW.nil)))
  obtain ⟨zc, vzc⟩ := is_v (Cond.before_iff.mp (hset _ (List.mem_of_getElem? (i := 1) rfl)))
  have SC : Sta s s.heap ST "COMPACT_STRINGS" "Z" (.int zc) := Sta.start vzc (Or.inl (hset _ (List.mem_of_getElem? (i := 0) rfl)))
  have hz : ¬ zc = 0 := ne_int vzc (hset _ (List.mem_of_getElem? (i := 2) rfl))
  have SA : Sta s s.heap "java/lang/StringUTF16" "$assertionsDisabled" "Z" (.int 1) := Sta.start (eq_int (Cond.before_iff.mp (hset _ (List.mem_of_getElem? (i := 12) rfl)))) (Or.inl (hset _ (List.mem_of_getElem? (i := 11) rfl)))
  have SH : Sta s s.heap "java/lang/StringUTF16" "HI_BYTE_SHIFT" "I" (.int 0) := Sta.start (eq_int (Cond.before_iff.mp (hset _ (List.mem_of_getElem? (i := 15) rfl)))) (Or.inl (hset _ (List.mem_of_getElem? (i := 14) rfl)))
  have SL : Sta s s.heap "java/lang/StringUTF16" "LO_BYTE_SHIFT" "I" (.int 8) := Sta.start (eq_int (Cond.before_iff.mp (hset _ (List.mem_of_getElem? (i := 18) rfl)))) (Or.inl (hset _ (List.mem_of_getElem? (i := 17) rfl)))
  have G : Gl s #[.int i0, .int i1, .int i2, .int i3, .int i4] zc := ⟨hw, hEL, SC, hz, SA, SH, SL⟩
  have hCH : CHv s consts_1 s.vm s.heap := CHv.start hEL (fun q hq => hcalls.1 q hq) (hset _ (List.mem_of_getElem? (i := 2) rfl)) (hw _ (List.mem_of_getElem? (i := 25) rfl)) (hw _ (List.mem_of_getElem? (i := 11) rfl))
  obtain ⟨n, o, h1, h2, h3, v, L, rfl, ⟨N, -, -, ⟨-, rfl⟩, -⟩, -, hq⟩ := (rm_law (l := l) G s.heap i0 i1 i2 i3 i4) tables_1 p e ha hc hk s m _ below hf ((Spec.applies_iff_loose hf).mp happ).1 ⟨rfl, State.Warmed39.refl s, rfl, hCH, Ext.rf _, all0, all0⟩ trivial
  refine ⟨n, _, h1, h2, h3, hpost _ _ _ _ _ _ ⟨Cond.after_iff.mpr rfl, Cond.after_iff.mpr (eq_i res_at (Term.int_eval (1)) rfl), trivial⟩ ⟨hq.1, hq.2.1, hq.2.2.1, hq.2.2.2.sift fun y hy => Or.inr (N y hy)⟩⟩
end Ow
theorem main_1_1 : Claimed_1_1 := Ow.comes_1 fun _ _ _ _ _ _ h hF => ⟨h.1, hF⟩
theorem main_1_2 : Claimed_1_2 := Ow.comes_1 fun _ _ _ _ _ _ h hF => ⟨h.2.1, hF⟩
end Jvm.Pilot.@@N@@
namespace Jvm.Pilot.@@N@@
open Jvm Jvm.ClassFile Sem Op Lib Jvm.Free Jvm.Stand Jvm.Pilot.@@N@@.Jvm.D
/-! MADE BY PROGRAM (witnessworld.py) out of the Statement's table words and the real class files: 20 classes; the members and pool entries that the words name. The judged class is class 1, her method 1. -/
namespace start1
open Jvm.ClassFile
def u (s : String) : CpInfo := .utf8 (stringToUtf16 s)
/-- a pool by its gaps: so many unusable entries, then the entry; so many at the end -/
def gap : Nat → List CpInfo → List CpInfo
  | 0, r => r
  | n + 1, r => .unusable :: gap n r
def poolList (es : List (Nat × CpInfo)) (last : Nat) : List CpInfo := es.foldr (fun e r => gap e.1 (e.2 :: r)) (gap last [])
def pool (es : List (Nat × CpInfo)) (last : Nat) : Array CpInfo := ⟨poolList es last⟩
def fileOf (pool : Array CpInfo) (this : Nat) (attrs : Array Attribute := #[]) (ms : Array MethodInfo := #[]) (fl : Nat := 33) (sup : Nat := 0) (ifs : Array Nat := #[]) (fds : Array FieldInfo := #[]) : ClassFile where
  minorVersion := 0
  majorVersion := 65
  constantPool := pool
  accessFlags := fl
  thisClass := this
  superClass := sup
  interfaces := ifs
  fields := fds
  methods := ms
  attributes := attrs
def plain (name : String) (sup : Option ClassId) : Class where
  name := name
  kind := .ordinary
  loader := none
  accessFlags := 33
  super := sup
  interfaces := #[]
  cf := none
  fields := #[]
  methods := #[]
  instanceTypes := #[]
  staticTypes := #[]
  resolved := #[]
  callSites := []
  init := .initialized
  statics := none
  mirror := none

def pool0 : Array CpInfo := pool [(5, u "<init>"), (0, u "()V"), (1, .class_ 10), (1, u "java/lang/Object")] 113

def k0c0 : Code := { maxStack := 0, maxLocals := 1, code := object_method_1_code, exceptionTable := #[], attributes := #[] }
def k0m0 : Method := { name := "<init>", desc := "()V", sig := { parameters := [], returnType := none }, accessFlags := 1, code := some k0c0 }
/-- java/lang/Object -/
def k0 : Class := { plain "java/lang/Object" none with
  accessFlags := 33
  interfaces := #[]
  cf := some (fileOf pool0 8 #[] #[{ accessFlags := 1, nameIndex := 5, descriptorIndex := 6, attributes := #[] }] 33 0 #[] #[])
  fields := #[]
  methods := #[k0m0]
  instanceTypes := #[]
  staticTypes := #[]
  resolved := Array.replicate 124 none
  statics := none }

def pool1 : Array CpInfo := pool [(2, .class_ 4), (1, u "java/lang/Object"), (0, u "<init>"), (0, u "()V"), (0, .methodref 8 9), (0, .class_ 10), (0, .nameAndType 11 12), (0, u "com/example/benchwire/benchwire/cli/HelpAsksPinLaw"), (0, u "pick"), (0, u "(IIIIZII)C"), (0, .methodref 8 14), (0, .nameAndType 15 16), (0, u "make"), (0, u "(ICCCCCCC)Ljava/lang/String;"), (0, .methodref 18 19), (0, .class_ 20), (0, .nameAndType 21 22), (0, u "com/example/benchwire/benchwire/cli/Help"), (0, u "asks"), (0, u "(Ljava/lang/String;)Z"), (0, .integer 65535), (0, .methodref 8 25), (0, .nameAndType 26 27), (0, u "longChar"), (0, u "(I)C"), (0, .class_ 29), (0, u "java/lang/String"), (0, .methodref 28 31), (0, .nameAndType 5 32), (0, u "([C)V"), (2, u "law"), (0, u "(IIIII)Z")] 3

def k1m0 : Method := { name := "<init>", desc := "()V", sig := { parameters := [], returnType := none }, accessFlags := 2, code := none }
def k1c1 : Code := { maxStack := 8, maxLocals := 20, code := code, exceptionTable := #[], attributes := #[] }
def k1m1 : Method := { name := "law", desc := "(IIIII)Z", sig := { parameters := [.int, .int, .int, .int, .int], returnType := some .boolean }, accessFlags := 9, code := some k1c1 }
def k1c2 : Code := { maxStack := 4, maxLocals := 8, code := method_3_code, exceptionTable := #[], attributes := #[] }
def k1m2 : Method := { name := "pick", desc := "(IIIIZII)C", sig := { parameters := [.int, .int, .int, .int, .boolean, .int, .int], returnType := some .char }, accessFlags := 10, code := some k1c2 }
def k1c3 : Code := { maxStack := 2, maxLocals := 1, code := method_4_code, exceptionTable := #[], attributes := #[] }
def k1m3 : Method := { name := "longChar", desc := "(I)C", sig := { parameters := [.int], returnType := some .char }, accessFlags := 10, code := some k1c3 }
def k1c4 : Code := { maxStack := 6, maxLocals := 8, code := method_5_code, exceptionTable := #[], attributes := #[] }
def k1m4 : Method := { name := "make", desc := "(ICCCCCCC)Ljava/lang/String;", sig := { parameters := [.int, .char, .char, .char, .char, .char, .char, .char], returnType := some (.object "java/lang/String") }, accessFlags := 10, code := some k1c4 }
/-- com/example/benchwire/benchwire/cli/HelpAsksPinLaw -/
def k1 : Class := { plain "com/example/benchwire/benchwire/cli/HelpAsksPinLaw" (some 0) with
  accessFlags := 49
  interfaces := #[]
  cf := some (fileOf pool1 8 #[] #[{ accessFlags := 2, nameIndex := 5, descriptorIndex := 6, attributes := #[] }, { accessFlags := 9, nameIndex := 35, descriptorIndex := 36, attributes := #[] }, { accessFlags := 10, nameIndex := 11, descriptorIndex := 12, attributes := #[] }, { accessFlags := 10, nameIndex := 26, descriptorIndex := 27, attributes := #[] }, { accessFlags := 10, nameIndex := 15, descriptorIndex := 16, attributes := #[] }] 49 2 #[] #[])
  fields := #[]
  methods := #[k1m0, k1m1, k1m2, k1m3, k1m4]
  instanceTypes := #[]
  staticTypes := #[]
  resolved := Array.replicate 40 none
  statics := none }

def pool2 : Array CpInfo := pool [(1, .class_ 2), (0, u "java/io/Serializable"), (0, .class_ 4), (0, u "java/lang/Object")] 2

/-- java/io/Serializable -/
def k2 : Class := { plain "java/io/Serializable" (some 0) with
  accessFlags := 1537
  interfaces := #[]
  cf := some (fileOf pool2 1 #[] #[] 1537 3 #[] #[])
  fields := #[]
  methods := #[]
  instanceTypes := #[]
  staticTypes := #[]
  resolved := Array.replicate 7 none
  statics := none }

def pool3 : Array CpInfo := pool [(1, .class_ 2), (0, u "java/lang/Comparable"), (0, .class_ 4), (0, u "java/lang/Object")] 7

/-- java/lang/Comparable -/
def k3 : Class := { plain "java/lang/Comparable" (some 0) with
  accessFlags := 1537
  interfaces := #[]
  cf := some (fileOf pool3 1 #[] #[] 1537 3 #[] #[])
  fields := #[]
  methods := #[]
  instanceTypes := #[]
  staticTypes := #[]
  resolved := Array.replicate 12 none
  statics := none }

def pool4 : Array CpInfo := pool [(2, .class_ 4), (1, u "java/lang/CharSequence"), (42, .class_ 48), (0, u "java/lang/CharSequence$1CodePointIterator"), (10, .class_ 60), (0, u "java/lang/CharSequence$1CharIterator"), (5, .class_ 67), (0, u "java/lang/Object")] 63

/-- java/lang/CharSequence -/
def k4 : Class := { plain "java/lang/CharSequence" (some 0) with
  accessFlags := 1537
  interfaces := #[]
  cf := some (fileOf pool4 2 #[.nestMembers #[47, 59]] #[] 1537 66 #[] #[])
  fields := #[]
  methods := #[]
  instanceTypes := #[]
  staticTypes := #[]
  resolved := Array.replicate 131 none
  statics := none }

def pool5 : Array CpInfo := pool [(1, .class_ 2), (0, u "java/lang/constant/Constable"), (0, .class_ 4), (0, u "java/lang/Object")] 6

/-- java/lang/constant/Constable -/
def k5 : Class := { plain "java/lang/constant/Constable" (some 0) with
  accessFlags := 1537
  interfaces := #[]
  cf := some (fileOf pool5 1 #[] #[] 1537 3 #[] #[])
  fields := #[]
  methods := #[]
  instanceTypes := #[]
  staticTypes := #[]
  resolved := Array.replicate 11 none
  statics := none }

def pool6 : Array CpInfo := pool [(1, .class_ 2), (0, u "java/lang/constant/ConstantDesc"), (0, .class_ 4), (0, u "java/lang/Object")] 32

/-- java/lang/constant/ConstantDesc -/
def k6 : Class := { plain "java/lang/constant/ConstantDesc" (some 0) with
  accessFlags := 1537
  interfaces := #[]
  cf := some (fileOf pool6 1 #[] #[] 1537 3 #[] #[])
  fields := #[]
  methods := #[]
  instanceTypes := #[]
  staticTypes := #[]
  resolved := Array.replicate 37 none
  statics := none }

def pool7 : Array CpInfo := pool [(1, .methodref 2 3), (0, .class_ 4), (0, .nameAndType 5 6), (0, u "java/lang/Object"), (0, u "<init>"), (0, u "()V"), (0, .string 8), (0, u ""), (0, .fieldref 10 11), (0, .class_ 12), (0, .nameAndType 13 14), (0, u "java/lang/String"), (0, u "value"), (0, u "[B"), (0, .fieldref 10 16), (0, .nameAndType 17 18), (0, u "coder"), (0, u "B"), (2, u "hash"), (0, u "I"), (2, u "hashIsZero"), (0, u "Z"), (0, .methodref 10 28), (0, .nameAndType 5 29), (0, u "([CIILjava/lang/Void;)V"), (8, .fieldref 10 39), (0, .nameAndType 40 26), (0, u "COMPACT_STRINGS"), (1, .class_ 44), (1, u "java/lang/StringUTF16"), (0, u "compress"), (1, .methodref 42 48), (0, .nameAndType 49 50), (0, u "coderFromArrayLen"), (0, u "([BI)B"), (56, .class_ 109), (1, u "java/lang/StringLatin1"), (67, .methodref 42 178), (0, .nameAndType 45 179), (0, u "([CII)[B"), (361, .methodref 107 542), (0, .nameAndType 543 544), (0, u "equals"), (0, u "([B[B)Z"), (28, u "(Ljava/lang/Object;)Z"), (1, .class_ 576), (0, u "java/lang/CharSequence"), (22, u "CASE_INSENSITIVE_ORDER"), (0, u "Ljava/util/Comparator;"), (409, u "([C)V"), (90, u "serialPersistentFields"), (0, u "[Ljava/io/ObjectStreamField;"), (0, .class_ 1104), (0, u "java/lang/String$CaseInsensitiveComparator"), (1, .class_ 1107), (0, u "java/io/Serializable"), (0, .class_ 1109), (0, u "java/lang/Comparable"), (0, .class_ 1111), (0, u "java/lang/constant/Constable"), (0, .class_ 1113), (0, u "java/lang/constant/ConstantDesc"), (2, u "serialVersionUID"), (0, u "J"), (3, u "REPL"), (0, u "C"), (2, u "LATIN1"), (1, u "UTF16")] 323

def k7m0 : Method := { name := "<init>", desc := "()V", sig := { parameters := [], returnType := none }, accessFlags := 1, code := none }
def k7c1 : Code := { maxStack := 5, maxLocals := 2, code := jdk_42_method_3_code, exceptionTable := #[], attributes := #[] }
def k7m1 : Method := { name := "<init>", desc := "([C)V", sig := { parameters := [(.array .char)], returnType := none }, accessFlags := 1, code := some k7c1 }
def k7c2 : Code := { maxStack := 2, maxLocals := 3, code := jdk_42_method_66_code, exceptionTable := #[], attributes := #[] }
def k7m2 : Method := { name := "equals", desc := "(Ljava/lang/Object;)Z", sig := { parameters := [(.object "java/lang/Object")], returnType := some .boolean }, accessFlags := 1, code := some k7c2 }
def k7c3 : Code := { maxStack := 4, maxLocals := 6, code := jdk_42_method_149_code, exceptionTable := #[], attributes := #[] }
def k7m3 : Method := { name := "<init>", desc := "([CIILjava/lang/Void;)V", sig := { parameters := [(.array .char), .int, .int, (.object "java/lang/Void")], returnType := none }, accessFlags := 2, code := some k7c3 }
/-- java/lang/String -/
def k7 : Class := { plain "java/lang/String" (some 0) with
  accessFlags := 49
  interfaces := #[2, 3, 4, 5, 6]
  cf := some (fileOf pool7 10 #[.nestMembers #[1103]] #[{ accessFlags := 1, nameIndex := 5, descriptorIndex := 6, attributes := #[] }, { accessFlags := 1, nameIndex := 5, descriptorIndex := 1010, attributes := #[] }, { accessFlags := 1, nameIndex := 543, descriptorIndex := 573, attributes := #[] }, { accessFlags := 2, nameIndex := 5, descriptorIndex := 29, attributes := #[] }] 49 2 #[1106, 1108, 575, 1110, 1112] #[{ accessFlags := 18, nameIndex := 13, descriptorIndex := 14, attributes := #[] }, { accessFlags := 18, nameIndex := 17, descriptorIndex := 18, attributes := #[] }, { accessFlags := 2, nameIndex := 21, descriptorIndex := 22, attributes := #[] }, { accessFlags := 2, nameIndex := 25, descriptorIndex := 26, attributes := #[] }, { accessFlags := 26, nameIndex := 1116, descriptorIndex := 1117, attributes := #[] }, { accessFlags := 24, nameIndex := 40, descriptorIndex := 26, attributes := #[] }, { accessFlags := 26, nameIndex := 1101, descriptorIndex := 1102, attributes := #[] }, { accessFlags := 26, nameIndex := 1121, descriptorIndex := 1122, attributes := #[] }, { accessFlags := 25, nameIndex := 599, descriptorIndex := 600, attributes := #[] }, { accessFlags := 24, nameIndex := 1125, descriptorIndex := 18, attributes := #[] }, { accessFlags := 24, nameIndex := 1127, descriptorIndex := 18, attributes := #[] }])
  fields := #[{ name := "value", type := (.array .byte), accessFlags := 18, slot := 0, constantValue := 0 }, { name := "coder", type := .byte, accessFlags := 18, slot := 1, constantValue := 0 }, { name := "hash", type := .int, accessFlags := 2, slot := 2, constantValue := 0 }, { name := "hashIsZero", type := .boolean, accessFlags := 2, slot := 3, constantValue := 0 }, { name := "serialVersionUID", type := .long, accessFlags := 26, slot := 0, constantValue := 0 }, { name := "COMPACT_STRINGS", type := .boolean, accessFlags := 24, slot := 1, constantValue := 0 }, { name := "serialPersistentFields", type := (.array (.object "java/io/ObjectStreamField")), accessFlags := 26, slot := 2, constantValue := 0 }, { name := "REPL", type := .char, accessFlags := 26, slot := 3, constantValue := 0 }, { name := "CASE_INSENSITIVE_ORDER", type := (.object "java/util/Comparator"), accessFlags := 25, slot := 4, constantValue := 0 }, { name := "LATIN1", type := .byte, accessFlags := 24, slot := 5, constantValue := 0 }, { name := "UTF16", type := .byte, accessFlags := 24, slot := 6, constantValue := 0 }]
  methods := #[k7m0, k7m1, k7m2, k7m3]
  instanceTypes := #[(.array .byte), .byte, .int, .boolean]
  staticTypes := #[.long, .boolean, (.array (.object "java/io/ObjectStreamField")), .char, (.object "java/util/Comparator"), .byte, .byte]
  resolved := Array.replicate 1451 none
  statics := some 0 }

def pool8 : Array CpInfo := pool [(2, .class_ 4), (1, u "java/lang/Object"), (0, u "<init>"), (0, u "()V"), (0, .string 8), (0, u "--help"), (0, .methodref 10 11), (0, .class_ 12), (0, .nameAndType 13 14), (0, u "java/lang/String"), (0, u "equals"), (0, u "(Ljava/lang/Object;)Z"), (0, .string 16), (0, u "-h"), (30, .class_ 48), (0, u "com/example/benchwire/benchwire/cli/Help$Entry"), (12, .class_ 62), (0, u "com/example/benchwire/benchwire/cli/Help$Section"), (6, .class_ 71), (1, u "com/example/benchwire/benchwire/cli/Help"), (100, u "WIDTH"), (0, u "I"), (2, u "TERM_INDENT"), (0, u "Ljava/lang/String;"), (0, u "TEXT_INDENT"), (2, u "asks"), (0, u "(Ljava/lang/String;)Z")] 17

def k8m0 : Method := { name := "<init>", desc := "()V", sig := { parameters := [], returnType := none }, accessFlags := 2, code := none }
def k8c1 : Code := { maxStack := 2, maxLocals := 1, code := prog_15_method_2_code, exceptionTable := #[], attributes := #[] }
def k8m1 : Method := { name := "asks", desc := "(Ljava/lang/String;)Z", sig := { parameters := [(.object "java/lang/String")], returnType := some .boolean }, accessFlags := 8, code := some k8c1 }
/-- com/example/benchwire/benchwire/cli/Help -/
def k8 : Class := { plain "com/example/benchwire/benchwire/cli/Help" (some 0) with
  accessFlags := 48
  interfaces := #[]
  cf := some (fileOf pool8 69 #[.nestMembers #[61, 47]] #[{ accessFlags := 2, nameIndex := 5, descriptorIndex := 6, attributes := #[] }, { accessFlags := 8, nameIndex := 181, descriptorIndex := 182, attributes := #[] }] 48 2 #[] #[{ accessFlags := 24, nameIndex := 172, descriptorIndex := 173, attributes := #[] }, { accessFlags := 26, nameIndex := 176, descriptorIndex := 177, attributes := #[] }, { accessFlags := 26, nameIndex := 178, descriptorIndex := 177, attributes := #[] }])
  fields := #[{ name := "WIDTH", type := .int, accessFlags := 24, slot := 0, constantValue := 0 }, { name := "TERM_INDENT", type := (.object "java/lang/String"), accessFlags := 26, slot := 1, constantValue := 0 }, { name := "TEXT_INDENT", type := (.object "java/lang/String"), accessFlags := 26, slot := 2, constantValue := 0 }]
  methods := #[k8m0, k8m1]
  instanceTypes := #[]
  staticTypes := #[.int, (.object "java/lang/String"), (.object "java/lang/String")]
  resolved := Array.replicate 200 none
  statics := none }

def pool9 : Array CpInfo := pool [(4, .class_ 6), (1, u "java/lang/Object"), (0, u "<init>"), (0, u "()V"), (5, .class_ 16), (1, u "java/lang/StringLatin1"), (104, u "$assertionsDisabled"), (0, u "Z"), (98, .class_ 223), (1, u "java/lang/StringLatin1$LinesSpliterator"), (57, u "equals"), (0, u "([B[B)Z"), (107, .class_ 391), (0, u "java/lang/StringLatin1$CharsSpliterator")] 3

def k9m0 : Method := { name := "<init>", desc := "()V", sig := { parameters := [], returnType := none }, accessFlags := 0, code := none }
def k9c1 : Code := { maxStack := 3, maxLocals := 3, code := jdk_43_method_13_code, exceptionTable := #[], attributes := #[] }
def k9m1 : Method := { name := "equals", desc := "([B[B)Z", sig := { parameters := [(.array .byte), (.array .byte)], returnType := some .boolean }, accessFlags := 9, code := some k9c1 }
/-- java/lang/StringLatin1 -/
def k9 : Class := { plain "java/lang/StringLatin1" (some 0) with
  accessFlags := 48
  interfaces := #[]
  cf := some (fileOf pool9 14 #[.nestMembers #[390, 221]] #[{ accessFlags := 0, nameIndex := 7, descriptorIndex := 8, attributes := #[] }, { accessFlags := 9, nameIndex := 281, descriptorIndex := 282, attributes := #[] }] 48 4 #[] #[{ accessFlags := 4120, nameIndex := 121, descriptorIndex := 122, attributes := #[] }])
  fields := #[{ name := "$assertionsDisabled", type := .boolean, accessFlags := 4120, slot := 0, constantValue := 0 }]
  methods := #[k9m0, k9m1]
  instanceTypes := #[]
  staticTypes := #[.boolean]
  resolved := Array.replicate 395 none
  statics := none }

def pool10 : Array CpInfo := pool [(6, .class_ 8), (1, u "java/lang/Object"), (0, u "<init>"), (0, u "()V"), (0, .methodref 12 13), (0, .class_ 14), (0, .nameAndType 15 16), (0, u "java/lang/StringUTF16"), (0, u "newBytesLength"), (0, u "(I)I"), (3, .integer 1073741823), (23, .fieldref 12 45), (0, .nameAndType 46 47), (0, u "$assertionsDisabled"), (0, u "Z"), (11, .fieldref 12 60), (0, .nameAndType 61 62), (0, u "HI_BYTE_SHIFT"), (0, u "I"), (0, .fieldref 12 64), (0, .nameAndType 65 62), (0, u "LO_BYTE_SHIFT"), (5, .methodref 12 72), (0, .nameAndType 73 74), (0, u "getChar"), (0, u "([BI)C"), (32, .methodref 12 108), (0, .nameAndType 109 110), (0, u "newBytesFor"), (0, u "(I)[B"), (0, .methodref 12 112), (0, .nameAndType 113 114), (0, u "putChar"), (0, u "([BII)V"), (0, .methodref 12 116), (0, .nameAndType 117 118), (0, u "compress"), (0, u "([CI[BII)I"), (0, .methodref 12 120), (0, .nameAndType 121 122), (0, u "toBytes"), (0, u "([CII)[B"), (138, u "coderFromArrayLen"), (0, u "([BI)B"), (106, .class_ 371), (1, u "java/lang/StringUTF16$LinesSpliterator"), (58, u "MAX_LENGTH"), (196, .class_ 628), (0, u "java/lang/StringUTF16$CodePointsSpliterator"), (0, .class_ 630), (0, u "java/lang/StringUTF16$CharsSpliterator")] 4

def k10m0 : Method := { name := "<init>", desc := "()V", sig := { parameters := [], returnType := none }, accessFlags := 0, code := none }
def k10c1 : Code := { maxStack := 1, maxLocals := 1, code := jdk_52_method_2_code, exceptionTable := #[], attributes := #[] }
def k10m1 : Method := { name := "newBytesFor", desc := "(I)[B", sig := { parameters := [.int], returnType := some (.array .byte) }, accessFlags := 9, code := some k10c1 }
def k10c2 : Code := { maxStack := 4, maxLocals := 1, code := jdk_52_method_3_code, exceptionTable := #[], attributes := #[] }
def k10m2 : Method := { name := "newBytesLength", desc := "(I)I", sig := { parameters := [.int], returnType := some .int }, accessFlags := 9, code := some k10c2 }
def k10c3 : Code := { maxStack := 4, maxLocals := 3, code := jdk_52_method_4_code, exceptionTable := #[], attributes := #[] }
def k10m3 : Method := { name := "putChar", desc := "([BII)V", sig := { parameters := [(.array .byte), .int, .int], returnType := none }, accessFlags := 8, code := some k10c3 }
def k10c4 : Code := { maxStack := 3, maxLocals := 2, code := jdk_52_method_5_code, exceptionTable := #[], attributes := #[] }
def k10m4 : Method := { name := "getChar", desc := "([BI)C", sig := { parameters := [(.array .byte), .int], returnType := some .char }, accessFlags := 8, code := some k10c4 }
def k10c5 : Code := { maxStack := 4, maxLocals := 5, code := jdk_52_method_14_code, exceptionTable := #[], attributes := #[] }
def k10m5 : Method := { name := "toBytes", desc := "([CII)[B", sig := { parameters := [(.array .char), .int, .int], returnType := some (.array .byte) }, accessFlags := 9, code := some k10c5 }
def k10c6 : Code := { maxStack := 2, maxLocals := 2, code := jdk_52_method_15_code, exceptionTable := #[], attributes := #[] }
def k10m6 : Method := { name := "coderFromArrayLen", desc := "([BI)B", sig := { parameters := [(.array .byte), .int], returnType := some .byte }, accessFlags := 8, code := some k10c6 }
def k10c7 : Code := { maxStack := 5, maxLocals := 6, code := jdk_52_method_16_code, exceptionTable := #[], attributes := #[] }
def k10m7 : Method := { name := "compress", desc := "([CII)[B", sig := { parameters := [(.array .char), .int, .int], returnType := some (.array .byte) }, accessFlags := 9, code := some k10c7 }
def k10c8 : Code := { maxStack := 3, maxLocals := 7, code := jdk_52_method_21_code, exceptionTable := #[], attributes := #[] }
def k10m8 : Method := { name := "compress", desc := "([CI[BII)I", sig := { parameters := [(.array .char), .int, (.array .byte), .int, .int], returnType := some .int }, accessFlags := 9, code := some k10c8 }
/-- java/lang/StringUTF16 -/
def k10 : Class := { plain "java/lang/StringUTF16" (some 0) with
  accessFlags := 48
  interfaces := #[]
  cf := some (fileOf pool10 12 #[.nestMembers #[627, 629, 369]] #[{ accessFlags := 0, nameIndex := 9, descriptorIndex := 10, attributes := #[] }, { accessFlags := 9, nameIndex := 109, descriptorIndex := 110, attributes := #[] }, { accessFlags := 9, nameIndex := 15, descriptorIndex := 16, attributes := #[] }, { accessFlags := 8, nameIndex := 113, descriptorIndex := 114, attributes := #[] }, { accessFlags := 8, nameIndex := 73, descriptorIndex := 74, attributes := #[] }, { accessFlags := 9, nameIndex := 121, descriptorIndex := 122, attributes := #[] }, { accessFlags := 8, nameIndex := 261, descriptorIndex := 262, attributes := #[] }, { accessFlags := 9, nameIndex := 117, descriptorIndex := 122, attributes := #[] }, { accessFlags := 9, nameIndex := 117, descriptorIndex := 118, attributes := #[] }] 48 6 #[] #[{ accessFlags := 26, nameIndex := 61, descriptorIndex := 62, attributes := #[] }, { accessFlags := 26, nameIndex := 65, descriptorIndex := 62, attributes := #[] }, { accessFlags := 24, nameIndex := 430, descriptorIndex := 62, attributes := #[] }, { accessFlags := 4120, nameIndex := 46, descriptorIndex := 47, attributes := #[] }])
  fields := #[{ name := "HI_BYTE_SHIFT", type := .int, accessFlags := 26, slot := 0, constantValue := 0 }, { name := "LO_BYTE_SHIFT", type := .int, accessFlags := 26, slot := 1, constantValue := 0 }, { name := "MAX_LENGTH", type := .int, accessFlags := 24, slot := 2, constantValue := 0 }, { name := "$assertionsDisabled", type := .boolean, accessFlags := 4120, slot := 3, constantValue := 0 }]
  methods := #[k10m0, k10m1, k10m2, k10m3, k10m4, k10m5, k10m6, k10m7, k10m8]
  instanceTypes := #[]
  staticTypes := #[.int, .int, .int, .boolean]
  resolved := Array.replicate 635 none
  statics := some 1 }

def pool11 : Array CpInfo := pool [(2, .class_ 4), (1, u "java/lang/Object"), (0, u "<init>"), (0, u "()V"), (17, .class_ 26), (1, u "jdk/internal/util/Preconditions"), (28, .class_ 56), (0, u "jdk/internal/util/Preconditions$4"), (57, .class_ 115), (0, u "jdk/internal/util/Preconditions$1"), (7, u "SIOOBE_FORMATTER"), (0, u "Ljava/util/function/BiFunction;"), (0, .class_ 126), (0, u "jdk/internal/util/Preconditions$2"), (3, u "AIOOBE_FORMATTER"), (0, .class_ 132), (0, u "jdk/internal/util/Preconditions$3"), (3, u "IOOBE_FORMATTER")] 57

def k11m0 : Method := { name := "<init>", desc := "()V", sig := { parameters := [], returnType := none }, accessFlags := 1, code := none }
/-- jdk/internal/util/Preconditions -/
def k11 : Class := { plain "jdk/internal/util/Preconditions" (some 0) with
  accessFlags := 33
  interfaces := #[]
  cf := some (fileOf pool11 24 #[.nestMembers #[55, 131, 125, 114]] #[{ accessFlags := 1, nameIndex := 5, descriptorIndex := 6, attributes := #[] }] 33 2 #[] #[{ accessFlags := 25, nameIndex := 123, descriptorIndex := 124, attributes := #[] }, { accessFlags := 25, nameIndex := 130, descriptorIndex := 124, attributes := #[] }, { accessFlags := 25, nameIndex := 136, descriptorIndex := 124, attributes := #[] }])
  fields := #[{ name := "SIOOBE_FORMATTER", type := (.object "java/util/function/BiFunction"), accessFlags := 25, slot := 0, constantValue := 0 }, { name := "AIOOBE_FORMATTER", type := (.object "java/util/function/BiFunction"), accessFlags := 25, slot := 1, constantValue := 0 }, { name := "IOOBE_FORMATTER", type := (.object "java/util/function/BiFunction"), accessFlags := 25, slot := 2, constantValue := 0 }]
  methods := #[k11m0]
  instanceTypes := #[]
  staticTypes := #[(.object "java/util/function/BiFunction"), (.object "java/util/function/BiFunction"), (.object "java/util/function/BiFunction")]
  resolved := Array.replicate 194 none
  statics := some 2 }

def pool12 : Array CpInfo := pool [(9, u "<init>"), (6, .class_ 18), (1, u "java/lang/Object"), (0, u "()V"), (1, .class_ 23), (1, u "jdk/internal/util/ArraysSupport"), (0, u "LOG2_ARRAY_LONG_INDEX_SCALE"), (0, u "I"), (2, u "U"), (0, u "Ljdk/internal/misc/Unsafe;"), (8, u "BIG_ENDIAN"), (0, u "Z"), (8, u "LOG2_BYTE_BIT_SIZE"), (4, u "LOG2_ARRAY_INT_INDEX_SCALE"), (54, u "JLA"), (0, u "Ljdk/internal/access/JavaLangAccess;"), (11, u "LOG2_ARRAY_BOOLEAN_INDEX_SCALE"), (9, u "LOG2_ARRAY_BYTE_INDEX_SCALE"), (5, u "LOG2_ARRAY_CHAR_INDEX_SCALE"), (5, u "LOG2_ARRAY_SHORT_INDEX_SCALE"), (18, u "LOG2_ARRAY_FLOAT_INDEX_SCALE"), (24, u "LOG2_ARRAY_DOUBLE_INDEX_SCALE"), (89, u "T_BOOLEAN"), (2, u "T_CHAR"), (1, u "T_FLOAT"), (1, u "T_DOUBLE"), (1, u "T_BYTE"), (1, u "T_SHORT"), (1, u "T_INT"), (1, u "T_LONG"), (1, u "SOFT_MAX_ARRAY_LENGTH")] 83

def k12m0 : Method := { name := "<init>", desc := "()V", sig := { parameters := [], returnType := none }, accessFlags := 2, code := none }
/-- jdk/internal/util/ArraysSupport -/
def k12 : Class := { plain "jdk/internal/util/ArraysSupport" (some 0) with
  accessFlags := 33
  interfaces := #[]
  cf := some (fileOf pool12 21 #[] #[{ accessFlags := 2, nameIndex := 9, descriptorIndex := 19, attributes := #[] }] 33 16 #[] #[{ accessFlags := 24, nameIndex := 28, descriptorIndex := 29, attributes := #[] }, { accessFlags := 26, nameIndex := 38, descriptorIndex := 39, attributes := #[] }, { accessFlags := 25, nameIndex := 121, descriptorIndex := 25, attributes := #[] }, { accessFlags := 25, nameIndex := 131, descriptorIndex := 25, attributes := #[] }, { accessFlags := 25, nameIndex := 137, descriptorIndex := 25, attributes := #[] }, { accessFlags := 25, nameIndex := 143, descriptorIndex := 25, attributes := #[] }, { accessFlags := 25, nameIndex := 53, descriptorIndex := 25, attributes := #[] }, { accessFlags := 25, nameIndex := 24, descriptorIndex := 25, attributes := #[] }, { accessFlags := 25, nameIndex := 162, descriptorIndex := 25, attributes := #[] }, { accessFlags := 25, nameIndex := 187, descriptorIndex := 25, attributes := #[] }, { accessFlags := 26, nameIndex := 48, descriptorIndex := 25, attributes := #[] }, { accessFlags := 25, nameIndex := 277, descriptorIndex := 25, attributes := #[] }, { accessFlags := 25, nameIndex := 280, descriptorIndex := 25, attributes := #[] }, { accessFlags := 25, nameIndex := 282, descriptorIndex := 25, attributes := #[] }, { accessFlags := 25, nameIndex := 284, descriptorIndex := 25, attributes := #[] }, { accessFlags := 25, nameIndex := 286, descriptorIndex := 25, attributes := #[] }, { accessFlags := 25, nameIndex := 288, descriptorIndex := 25, attributes := #[] }, { accessFlags := 25, nameIndex := 290, descriptorIndex := 25, attributes := #[] }, { accessFlags := 25, nameIndex := 292, descriptorIndex := 25, attributes := #[] }, { accessFlags := 26, nameIndex := 108, descriptorIndex := 109, attributes := #[] }, { accessFlags := 25, nameIndex := 294, descriptorIndex := 25, attributes := #[] }])
  fields := #[{ name := "U", type := (.object "jdk/internal/misc/Unsafe"), accessFlags := 24, slot := 0, constantValue := 0 }, { name := "BIG_ENDIAN", type := .boolean, accessFlags := 26, slot := 1, constantValue := 0 }, { name := "LOG2_ARRAY_BOOLEAN_INDEX_SCALE", type := .int, accessFlags := 25, slot := 2, constantValue := 0 }, { name := "LOG2_ARRAY_BYTE_INDEX_SCALE", type := .int, accessFlags := 25, slot := 3, constantValue := 0 }, { name := "LOG2_ARRAY_CHAR_INDEX_SCALE", type := .int, accessFlags := 25, slot := 4, constantValue := 0 }, { name := "LOG2_ARRAY_SHORT_INDEX_SCALE", type := .int, accessFlags := 25, slot := 5, constantValue := 0 }, { name := "LOG2_ARRAY_INT_INDEX_SCALE", type := .int, accessFlags := 25, slot := 6, constantValue := 0 }, { name := "LOG2_ARRAY_LONG_INDEX_SCALE", type := .int, accessFlags := 25, slot := 7, constantValue := 0 }, { name := "LOG2_ARRAY_FLOAT_INDEX_SCALE", type := .int, accessFlags := 25, slot := 8, constantValue := 0 }, { name := "LOG2_ARRAY_DOUBLE_INDEX_SCALE", type := .int, accessFlags := 25, slot := 9, constantValue := 0 }, { name := "LOG2_BYTE_BIT_SIZE", type := .int, accessFlags := 26, slot := 10, constantValue := 0 }, { name := "T_BOOLEAN", type := .int, accessFlags := 25, slot := 11, constantValue := 0 }, { name := "T_CHAR", type := .int, accessFlags := 25, slot := 12, constantValue := 0 }, { name := "T_FLOAT", type := .int, accessFlags := 25, slot := 13, constantValue := 0 }, { name := "T_DOUBLE", type := .int, accessFlags := 25, slot := 14, constantValue := 0 }, { name := "T_BYTE", type := .int, accessFlags := 25, slot := 15, constantValue := 0 }, { name := "T_SHORT", type := .int, accessFlags := 25, slot := 16, constantValue := 0 }, { name := "T_INT", type := .int, accessFlags := 25, slot := 17, constantValue := 0 }, { name := "T_LONG", type := .int, accessFlags := 25, slot := 18, constantValue := 0 }, { name := "JLA", type := (.object "jdk/internal/access/JavaLangAccess"), accessFlags := 26, slot := 19, constantValue := 0 }, { name := "SOFT_MAX_ARRAY_LENGTH", type := .int, accessFlags := 25, slot := 20, constantValue := 0 }]
  methods := #[k12m0]
  instanceTypes := #[]
  staticTypes := #[(.object "jdk/internal/misc/Unsafe"), .boolean, .int, .int, .int, .int, .int, .int, .int, .int, .int, .int, .int, .int, .int, .int, .int, .int, .int, (.object "jdk/internal/access/JavaLangAccess"), .int]
  resolved := Array.replicate 378 none
  statics := none }

def pool13 : Array CpInfo := pool [(1, u "java/lang/Cloneable"), (0, .class_ 1), (0, u "java/lang/Object"), (0, .class_ 3)] 3

/-- java/lang/Cloneable -/
def k13 : Class := { plain "java/lang/Cloneable" (some 0) with
  accessFlags := 1537
  interfaces := #[]
  cf := some (fileOf pool13 2 #[] #[] 1537 4 #[] #[])
  fields := #[]
  methods := #[]
  instanceTypes := #[]
  staticTypes := #[]
  resolved := Array.replicate 8 none
  statics := none }

/-- the primitive byte -/
def k14 : Class := { plain "byte" none with kind := .primitive 'B', accessFlags := 0x411 }
/-- [B -/
def k15 : Class := { plain "[B" (some 0) with kind := .array 14 .byte, interfaces := #[13, 2], accessFlags := 1041 }

/-- the primitive char -/
def k16 : Class := { plain "char" none with kind := .primitive 'C', accessFlags := 0x411 }
/-- [C -/
def k17 : Class := { plain "[C" (some 0) with kind := .array 16 .char, interfaces := #[13, 2], accessFlags := 1041 }

/-- the primitive int -/
def k18 : Class := { plain "int" none with kind := .primitive 'I', accessFlags := 0x411 }
/-- [I -/
def k19 : Class := { plain "[I" (some 0) with kind := .array 18 .int, interfaces := #[13, 2], accessFlags := 1041 }

def heap : Heap := #[{ cls := 7, slots := #[.long 0, .int 1, .null, .int 0, .null, .int 0, .int 0], vm := .statics 7 },
  { cls := 10, slots := #[.int 0, .int 8, .int 0, .int 1], vm := .statics 10 },
  { cls := 11, slots := #[.null, .null, .null], vm := .statics 11 }]
def classes : Array Class := #[k0, k1, k2, k3, k4, k5, k6, k7, k8, k9, k10, k11, k12, k13, k14, k15, k16, k17, k18, k19]
def interned : List (Array UInt16 × Addr) := []
def slotsUsed : Nat := 14
def theMethod : MethodId := ⟨1, 1⟩
def args0 : Array Value := #[.int 5, .int 5, .int 5, .int 5, .int 5]
def aboutOver (below : List Frame) : State where
  vm := { classes := classes, interned := interned.toArray }
  heap := heap
  slotsUsed := slotsUsed
  threads := #[{ frames := .invoking theMethod args0 :: below }]
def below0 : List Frame := [.native { method := ⟨0, 0⟩, args := #[] }]
def about1 : State := aboutOver below0
def p0 : Program := .bare "" "" ""
def e0 : Env := launch0.env 0 0 0
theorem w_frames : about1.frames = Frame.invoking theMethod args0 :: below0 := rfl
set_option maxRecDepth 65536 in
theorem w_args : argsFit about1.vm theMethod args0 = true := by decide +kernel
set_option maxRecDepth 65536 in
theorem w_heap : heapFits about1 = true := by decide +kernel
set_option maxRecDepth 65536 in
theorem w_runnable : about1.curStatus? = some .runnable := by decide +kernel
set_option maxRecDepth 65536 in
theorem w_alone : about1.alone = true := by decide +kernel
set_option maxRecDepth 65536 in
theorem w_named : about1.methodNamed? x = some theMethod := by decide +kernel
set_option maxRecDepth 65536 in
theorem w_hears : about1.hears theMethod below0 = true := by decide +kernel
set_option maxRecDepth 65536 in
theorem w_ripe : about1.ripe theMethod args0 below0 = true := by decide +kernel
theorem w_running : about1.status = .running := rfl
set_option maxRecDepth 65536 in
theorem w_room : about1.hasRoom e0.platform room_1 = true :=
  launch0.hasRoom_least _ room_1 (by decide +kernel) (by decide +kernel) (by decide +kernel) (by decide +kernel) (by decide +kernel) (by decide +kernel)
theorem allAtoms_all (ts : List Jvm.Cond) (a : Array Jvm.Value) (st : Jvm.State) : (allAtoms ts).before a st = ts.all (fun c => c.before a st) := by
  induction ts with
  | nil => rfl
  | cons c t ih =>
    show (Jvm.Cond.and c (allAtoms t)).before a st = _
    rw [Jvm.Cond.before_and, ih, List.all_cons]
def words1 : List Jvm.Cond := Jvm.Cond.code x code maxLocals ret :: tables_1
/-- a 'code' word, met by the world's own term for the bytes: nothing is compared byte by byte -/
theorem code_word {y : MethodName} {bytes : ByteArray} {mx : Nat} {rt : Option FieldType} {a : Array Value} {s : State} {m : MethodId} {meth : Method} {c : Code} (h1 : s.methodNamed? y = some m) (h2 : s.vm.method? m = some meth) (h3 : meth.code = some c) (h4 : c.code = bytes)
    (h5 : (c.maxLocals == mx && c.exceptionTable.isEmpty && decide (c.maxStack ≤ mostOperands) && decide (meth.sig.returnType = rt) && !meth.locks && decide (parseMethodDescriptor y.desc = some meth.sig)) = true) : (Jvm.Cond.code y bytes mx rt).before a s = true := by
  simp only [Bool.and_eq_true, beq_iff_eq, Bool.not_eq_true', decide_eq_true_eq] at h5
  obtain ⟨⟨⟨⟨⟨g1, g2⟩, g3⟩, g4⟩, g5⟩, g6⟩ := h5
  simp [Cond.before, Cond.holds, Cond.value, h1, h2, h3, h4, g1, g2, g3, g4, g5, g6]
def isCode : Jvm.Cond → Bool
  | .code _ _ _ _ => true
  | _ => false
theorem all_split {L : List Jvm.Cond} {P : Jvm.Cond → Bool} (h1 : L.all (fun c => isCode c || P c) = true) (h2 : ∀ c ∈ L.filter isCode, P c = true) : L.all P = true := by
  refine List.all_eq_true.mpr fun c hc => ?_
  have h := List.all_eq_true.mp h1 c hc
  rcases Bool.eq_false_or_eq_true (isCode c) with hi | hi
  · exact h2 c (List.mem_filter.mpr ⟨hc, hi⟩)
  · simpa [hi] using h
set_option maxRecDepth 65536 in
theorem w_c0 : (Jvm.Cond.code x code maxLocals ret).before args0 about1 = true := code_word (m := ⟨1, 1⟩) (meth := k1m1) (c := k1c1) (by decide +kernel) rfl rfl rfl (by decide +kernel)
set_option maxRecDepth 65536 in
theorem w_c1 : (Jvm.Cond.code ({ cls := "com/example/benchwire/benchwire/cli/HelpAsksPinLaw", name := "pick", desc := "(IIIIZII)C" } : Jvm.MethodName) method_3_code (8 : Nat) (Option.some Jvm.ClassFile.FieldType.char)).before args0 about1 = true := code_word (m := ⟨1, 2⟩) (meth := k1m2) (c := k1c2) (by decide +kernel) rfl rfl rfl (by decide +kernel)
set_option maxRecDepth 65536 in
theorem w_c2 : (Jvm.Cond.code ({ cls := "com/example/benchwire/benchwire/cli/HelpAsksPinLaw", name := "longChar", desc := "(I)C" } : Jvm.MethodName) method_4_code (1 : Nat) (Option.some Jvm.ClassFile.FieldType.char)).before args0 about1 = true := code_word (m := ⟨1, 3⟩) (meth := k1m3) (c := k1c3) (by decide +kernel) rfl rfl rfl (by decide +kernel)
set_option maxRecDepth 65536 in
theorem w_c3 : (Jvm.Cond.code ({ cls := "com/example/benchwire/benchwire/cli/HelpAsksPinLaw", name := "make", desc := "(ICCCCCCC)Ljava/lang/String;" } : Jvm.MethodName) method_5_code (8 : Nat) (Option.some (Jvm.ClassFile.FieldType.object "java/lang/String"))).before args0 about1 = true := code_word (m := ⟨1, 4⟩) (meth := k1m4) (c := k1c4) (by decide +kernel) rfl rfl rfl (by decide +kernel)
set_option maxRecDepth 65536 in
theorem w_c4 : (Jvm.Cond.code ({ cls := "java/lang/String", name := "<init>", desc := "([C)V" } : Jvm.MethodName) jdk_42_method_3_code (2 : Nat) (Option.none : Option Jvm.ClassFile.FieldType)).before args0 about1 = true := code_word (m := ⟨7, 1⟩) (meth := k7m1) (c := k7c1) (by decide +kernel) rfl rfl rfl (by decide +kernel)
set_option maxRecDepth 65536 in
theorem w_c5 : (Jvm.Cond.code ({ cls := "java/lang/String", name := "<init>", desc := "([CIILjava/lang/Void;)V" } : Jvm.MethodName) jdk_42_method_149_code (6 : Nat) (Option.none : Option Jvm.ClassFile.FieldType)).before args0 about1 = true := code_word (m := ⟨7, 3⟩) (meth := k7m3) (c := k7c3) (by decide +kernel) rfl rfl rfl (by decide +kernel)
set_option maxRecDepth 65536 in
theorem w_c6 : (Jvm.Cond.code ({ cls := "java/lang/Object", name := "<init>", desc := "()V" } : Jvm.MethodName) object_method_1_code (1 : Nat) (Option.none : Option Jvm.ClassFile.FieldType)).before args0 about1 = true := code_word (m := ⟨0, 0⟩) (meth := k0m0) (c := k0c0) (by decide +kernel) rfl rfl rfl (by decide +kernel)
set_option maxRecDepth 65536 in
theorem w_c7 : (Jvm.Cond.code ({ cls := "com/example/benchwire/benchwire/cli/Help", name := "asks", desc := "(Ljava/lang/String;)Z" } : Jvm.MethodName) prog_15_method_2_code (1 : Nat) (Option.some Jvm.ClassFile.FieldType.boolean)).before args0 about1 = true := code_word (m := ⟨8, 1⟩) (meth := k8m1) (c := k8c1) (by decide +kernel) rfl rfl rfl (by decide +kernel)
set_option maxRecDepth 65536 in
theorem w_c8 : (Jvm.Cond.code ({ cls := "java/lang/String", name := "equals", desc := "(Ljava/lang/Object;)Z" } : Jvm.MethodName) jdk_42_method_66_code (3 : Nat) (Option.some Jvm.ClassFile.FieldType.boolean)).before args0 about1 = true := code_word (m := ⟨7, 2⟩) (meth := k7m2) (c := k7c2) (by decide +kernel) rfl rfl rfl (by decide +kernel)
set_option maxRecDepth 65536 in
theorem w_c9 : (Jvm.Cond.code ({ cls := "java/lang/StringLatin1", name := "equals", desc := "([B[B)Z" } : Jvm.MethodName) jdk_43_method_13_code (3 : Nat) (Option.some Jvm.ClassFile.FieldType.boolean)).before args0 about1 = true := code_word (m := ⟨9, 1⟩) (meth := k9m1) (c := k9c1) (by decide +kernel) rfl rfl rfl (by decide +kernel)
set_option maxRecDepth 65536 in
theorem w_c10 : (Jvm.Cond.code ({ cls := "java/lang/StringUTF16", name := "compress", desc := "([CII)[B" } : Jvm.MethodName) jdk_52_method_16_code (6 : Nat) (Option.some (Jvm.ClassFile.FieldType.array Jvm.ClassFile.FieldType.byte))).before args0 about1 = true := code_word (m := ⟨10, 7⟩) (meth := k10m7) (c := k10c7) (by decide +kernel) rfl rfl rfl (by decide +kernel)
set_option maxRecDepth 65536 in
theorem w_c11 : (Jvm.Cond.code ({ cls := "java/lang/StringUTF16", name := "compress", desc := "([CI[BII)I" } : Jvm.MethodName) jdk_52_method_21_code (7 : Nat) (Option.some Jvm.ClassFile.FieldType.int)).before args0 about1 = true := code_word (m := ⟨10, 8⟩) (meth := k10m8) (c := k10c8) (by decide +kernel) rfl rfl rfl (by decide +kernel)
set_option maxRecDepth 65536 in
theorem w_c12 : (Jvm.Cond.code ({ cls := "java/lang/StringUTF16", name := "coderFromArrayLen", desc := "([BI)B" } : Jvm.MethodName) jdk_52_method_15_code (2 : Nat) (Option.some Jvm.ClassFile.FieldType.byte)).before args0 about1 = true := code_word (m := ⟨10, 6⟩) (meth := k10m6) (c := k10c6) (by decide +kernel) rfl rfl rfl (by decide +kernel)
set_option maxRecDepth 65536 in
theorem w_c13 : (Jvm.Cond.code ({ cls := "java/lang/StringUTF16", name := "toBytes", desc := "([CII)[B" } : Jvm.MethodName) jdk_52_method_14_code (5 : Nat) (Option.some (Jvm.ClassFile.FieldType.array Jvm.ClassFile.FieldType.byte))).before args0 about1 = true := code_word (m := ⟨10, 5⟩) (meth := k10m5) (c := k10c5) (by decide +kernel) rfl rfl rfl (by decide +kernel)
set_option maxRecDepth 65536 in
theorem w_c14 : (Jvm.Cond.code ({ cls := "java/lang/StringUTF16", name := "newBytesFor", desc := "(I)[B" } : Jvm.MethodName) jdk_52_method_2_code (1 : Nat) (Option.some (Jvm.ClassFile.FieldType.array Jvm.ClassFile.FieldType.byte))).before args0 about1 = true := code_word (m := ⟨10, 1⟩) (meth := k10m1) (c := k10c1) (by decide +kernel) rfl rfl rfl (by decide +kernel)
set_option maxRecDepth 65536 in
theorem w_c15 : (Jvm.Cond.code ({ cls := "java/lang/StringUTF16", name := "newBytesLength", desc := "(I)I" } : Jvm.MethodName) jdk_52_method_3_code (1 : Nat) (Option.some Jvm.ClassFile.FieldType.int)).before args0 about1 = true := code_word (m := ⟨10, 2⟩) (meth := k10m2) (c := k10c2) (by decide +kernel) rfl rfl rfl (by decide +kernel)
set_option maxRecDepth 65536 in
theorem w_c16 : (Jvm.Cond.code ({ cls := "java/lang/StringUTF16", name := "putChar", desc := "([BII)V" } : Jvm.MethodName) jdk_52_method_4_code (3 : Nat) (Option.none : Option Jvm.ClassFile.FieldType)).before args0 about1 = true := code_word (m := ⟨10, 3⟩) (meth := k10m3) (c := k10c3) (by decide +kernel) rfl rfl rfl (by decide +kernel)
set_option maxRecDepth 65536 in
theorem w_c17 : (Jvm.Cond.code ({ cls := "java/lang/StringUTF16", name := "getChar", desc := "([BI)C" } : Jvm.MethodName) jdk_52_method_5_code (2 : Nat) (Option.some Jvm.ClassFile.FieldType.char)).before args0 about1 = true := code_word (m := ⟨10, 4⟩) (meth := k10m4) (c := k10c4) (by decide +kernel) rfl rfl rfl (by decide +kernel)
def codes1 : List Jvm.Cond := [Jvm.Cond.code x code maxLocals ret, Jvm.Cond.code ({ cls := "com/example/benchwire/benchwire/cli/HelpAsksPinLaw", name := "pick", desc := "(IIIIZII)C" } : Jvm.MethodName) method_3_code (8 : Nat) (Option.some Jvm.ClassFile.FieldType.char), Jvm.Cond.code ({ cls := "com/example/benchwire/benchwire/cli/HelpAsksPinLaw", name := "longChar", desc := "(I)C" } : Jvm.MethodName) method_4_code (1 : Nat) (Option.some Jvm.ClassFile.FieldType.char), Jvm.Cond.code ({ cls := "com/example/benchwire/benchwire/cli/HelpAsksPinLaw", name := "make", desc := "(ICCCCCCC)Ljava/lang/String;" } : Jvm.MethodName) method_5_code (8 : Nat) (Option.some (Jvm.ClassFile.FieldType.object "java/lang/String")), Jvm.Cond.code ({ cls := "java/lang/String", name := "<init>", desc := "([C)V" } : Jvm.MethodName) jdk_42_method_3_code (2 : Nat) (Option.none : Option Jvm.ClassFile.FieldType), Jvm.Cond.code ({ cls := "java/lang/String", name := "<init>", desc := "([CIILjava/lang/Void;)V" } : Jvm.MethodName) jdk_42_method_149_code (6 : Nat) (Option.none : Option Jvm.ClassFile.FieldType), Jvm.Cond.code ({ cls := "java/lang/Object", name := "<init>", desc := "()V" } : Jvm.MethodName) object_method_1_code (1 : Nat) (Option.none : Option Jvm.ClassFile.FieldType), Jvm.Cond.code ({ cls := "com/example/benchwire/benchwire/cli/Help", name := "asks", desc := "(Ljava/lang/String;)Z" } : Jvm.MethodName) prog_15_method_2_code (1 : Nat) (Option.some Jvm.ClassFile.FieldType.boolean), Jvm.Cond.code ({ cls := "java/lang/String", name := "equals", desc := "(Ljava/lang/Object;)Z" } : Jvm.MethodName) jdk_42_method_66_code (3 : Nat) (Option.some Jvm.ClassFile.FieldType.boolean), Jvm.Cond.code ({ cls := "java/lang/StringLatin1", name := "equals", desc := "([B[B)Z" } : Jvm.MethodName) jdk_43_method_13_code (3 : Nat) (Option.some Jvm.ClassFile.FieldType.boolean), Jvm.Cond.code ({ cls := "java/lang/StringUTF16", name := "compress", desc := "([CII)[B" } : Jvm.MethodName) jdk_52_method_16_code (6 : Nat) (Option.some (Jvm.ClassFile.FieldType.array Jvm.ClassFile.FieldType.byte)), Jvm.Cond.code ({ cls := "java/lang/StringUTF16", name := "compress", desc := "([CI[BII)I" } : Jvm.MethodName) jdk_52_method_21_code (7 : Nat) (Option.some Jvm.ClassFile.FieldType.int), Jvm.Cond.code ({ cls := "java/lang/StringUTF16", name := "coderFromArrayLen", desc := "([BI)B" } : Jvm.MethodName) jdk_52_method_15_code (2 : Nat) (Option.some Jvm.ClassFile.FieldType.byte), Jvm.Cond.code ({ cls := "java/lang/StringUTF16", name := "toBytes", desc := "([CII)[B" } : Jvm.MethodName) jdk_52_method_14_code (5 : Nat) (Option.some (Jvm.ClassFile.FieldType.array Jvm.ClassFile.FieldType.byte)), Jvm.Cond.code ({ cls := "java/lang/StringUTF16", name := "newBytesFor", desc := "(I)[B" } : Jvm.MethodName) jdk_52_method_2_code (1 : Nat) (Option.some (Jvm.ClassFile.FieldType.array Jvm.ClassFile.FieldType.byte)), Jvm.Cond.code ({ cls := "java/lang/StringUTF16", name := "newBytesLength", desc := "(I)I" } : Jvm.MethodName) jdk_52_method_3_code (1 : Nat) (Option.some Jvm.ClassFile.FieldType.int), Jvm.Cond.code ({ cls := "java/lang/StringUTF16", name := "putChar", desc := "([BII)V" } : Jvm.MethodName) jdk_52_method_4_code (3 : Nat) (Option.none : Option Jvm.ClassFile.FieldType), Jvm.Cond.code ({ cls := "java/lang/StringUTF16", name := "getChar", desc := "([BI)C" } : Jvm.MethodName) jdk_52_method_5_code (2 : Nat) (Option.some Jvm.ClassFile.FieldType.char)]
set_option maxRecDepth 65536 in
theorem codes_eq : words1.filter isCode = codes1 := rfl
theorem w_codes : ∀ c ∈ words1.filter isCode, c.before args0 about1 = true := by
  rw [codes_eq]
  intro c hc
  simp only [codes1, List.mem_cons, List.not_mem_nil, or_false] at hc
  rcases hc with rfl | rfl | rfl | rfl | rfl | rfl | rfl | rfl | rfl | rfl | rfl | rfl | rfl | rfl | rfl | rfl | rfl | rfl
  · exact w_c0
  · exact w_c1
  · exact w_c2
  · exact w_c3
  · exact w_c4
  · exact w_c5
  · exact w_c6
  · exact w_c7
  · exact w_c8
  · exact w_c9
  · exact w_c10
  · exact w_c11
  · exact w_c12
  · exact w_c13
  · exact w_c14
  · exact w_c15
  · exact w_c16
  · exact w_c17
set_option maxRecDepth 65536 in
theorem w_t1 : (words1.take 24).all (fun c => isCode c || c.before args0 about1) = true := by decide +kernel
set_option maxRecDepth 65536 in
theorem w_t2 : ((words1.drop 24).take 24).all (fun c => isCode c || c.before args0 about1) = true := by decide +kernel
set_option maxRecDepth 65536 in
theorem w_t3 : (((words1.drop 24).drop 24).take 24).all (fun c => isCode c || c.before args0 about1) = true := by decide +kernel
set_option maxRecDepth 65536 in
theorem w_t4 : (((words1.drop 24).drop 24).drop 24).all (fun c => isCode c || c.before args0 about1) = true := by decide +kernel
theorem w_tables : (allAtoms (Jvm.Cond.code x code maxLocals ret :: tables_1)).before args0 about1 = true := by
  rw [allAtoms_all]
  show words1.all (fun c => c.before args0 about1) = true
  refine all_split ?_ w_codes
  rw [← List.take_append_drop 24 words1, List.all_append, w_t1, ← List.take_append_drop 24 (words1.drop 24), List.all_append, w_t2, ← List.take_append_drop 24 ((words1.drop 24).drop 24), List.all_append, w_t3, w_t4]
  rfl
set_option maxRecDepth 65536 in
theorem w_rest : rest_1_c.before args0 about1 = true := by decide +kernel
set_option maxRecDepth 65536 in
theorem w_case : (Jvm.Cond.and given_1 narrow_1).before args0 about1 = true := by decide +kernel
set_option maxRecDepth 65536 in
theorem w_consts : constsHeld consts_1 about1 := Jvm.Lit.constsHeldB_iff.mp (by decide +kernel)
theorem w_applies : (headSpec (Jvm.Cond.code x code maxLocals ret :: tables_1) room_1).applies x e0.platform about1 = true :=
  (Spec.applies_iff w_frames).mpr ⟨w_running, w_runnable, w_alone, w_named, w_hears, w_ripe, w_room, w_tables⟩
theorem atStart : AtStart classFile x code maxLocals ret World_1 tables_1 room_1 Calls_1 rest_1 Pre_1 launch0 p0 e0 about1 theMethod args0 below0 :=
  ⟨lists_1, trivial, launch0.admits_env _ _ _, launch0.least_env, fairChoices_fair.cas, fairChoices_fair.clock, w_frames, w_args, w_heap, w_applies, ⟨w_consts, trivial⟩, w_rest, w_case⟩
end start1
theorem witness_1 : WitnessClaimed_1 := ⟨start1.p0, start1.e0, start1.about1, start1.theMethod, start1.args0, start1.below0, start1.atStart⟩
end Jvm.Pilot.@@N@@
