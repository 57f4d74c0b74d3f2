import JvmDerived
import JvmDerived.Pilot.@@N@@Statement
import JvmDerived.Pilot.@@N@@Code
set_option linter.unusedVariables false
set_option linter.unusedSimpArgs false

/- laws to paste: Road.backV, Road.eqW, Road.codOf (cut by pick.py; bodies as the Statement names them) -/
namespace Jvm.Pilot.@@N@@
namespace StrChars
open Jvm Sem ClassFile Op Lib Jvm.Stand Jvm.Free.XT Jvm.Free.ALB Jvm.Free.JM Jvm.Free
open Jvm.Lib.Cold (StaticIs)
/-- a char array whose places are chars -/
def Ch (a : Addr) (A : Cell) (U : State) : Prop := Arr .char a A U ∧ Typed .char A
theorem Ch.mv {a : Addr} {A : Cell} {U U' : State} (h : Ch a A U) (hal : U.vm.Alike U'.vm) (hh : U'.heap = U.heap) : Ch a A U' := ⟨h.1.mv hal hh, h.2⟩
theorem Ch.keep {a : Addr} {A : Cell} {U U' : State} (h : Ch a A U) (hal : U.vm.Alike U'.vm) (hk : U'.heap[a]? = some A) : Ch a A U' := ⟨h.1.keep hal hk, h.2⟩
/-- what place i of a char[]'s cell holds -/
def cv (A : Cell) (i : Nat) : Int32 := match A.slots[i]? with | some (.int x) => x | _ => 0
theorem Ch.get {a : Addr} {A : Cell} {U : State} (h : Ch a A U) {i : Nat} (hi : i < A.slots.size) : A.slots[i]? = some (.int (cv A i)) := by
  have e := Array.getElem?_eq_getElem hi
  have f := h.2 i _ e
  unfold cv; rw [e]
  generalize A.slots[i] = v at f
  cases v <;> simp [fits] at f ⊢
/-- the byte that i2b leaves of a char -/
def lo8 (x : Int32) : Int32 := x.toInt8.toInt32
theorem fits_lo8 (y : Int32) : fits .byte (.int (lo8 y)) = true := by
  have h1 := y.toInt8.le_toInt
  have h2 := y.toInt8.toInt_lt
  simp only [lo8, fits, Bool.and_eq_true, decide_eq_true_eq, Int32.le_iff_toInt_le, Int8.toInt_toInt32, show (-128 : Int32).toInt = -128 from by decide, show (127 : Int32).toInt = 127 from by decide]
  omega
/-- A' is A but that each place j of lo .. hi - 1 holds f j -/
def Laid (A A' : Cell) (lo hi : Nat) (f : Nat → Value) : Prop := A'.cls = A.cls ∧ A'.vm = A.vm ∧ A'.slots.size = A.slots.size ∧ ∀ i, A'.slots[i]? = if lo ≤ i ∧ i < hi then some (f i) else A.slots[i]?
theorem Laid.zero (A : Cell) (lo : Nat) (f : Nat → Value) : Laid A A lo (lo + 0) f := ⟨rfl, rfl, rfl, fun i => by rw [if_neg (by omega)]⟩
theorem Laid.step {A Ak : Cell} {lo k : Nat} {f : Nat → Value} {v : Value} (h : Laid A Ak lo k f) (hlo : lo ≤ k) (hk : k < Ak.slots.size) (hv : v = f k) : Laid A (Ak.setSlot k v) lo (k + 1) f := by
  refine ⟨h.1, h.2.1, by simpa [Cell.setSlot] using h.2.2.1, fun i => ?_⟩
  by_cases e : k = i
  · subst e; rw [Cell.slots_setSlot_self v hk, if_pos (by omega), hv]
  · rw [Cell.slots_setSlot_ne v e, h.2.2.2 i]
    by_cases q : lo ≤ i ∧ i < k
    · rw [if_pos q, if_pos (by omega)]
    · rw [if_neg q, if_neg (by omega)]
def U16 : String := "java/lang/StringUTF16"
namespace Cmp5
def yN : MethodName := ⟨"java/lang/StringUTF16", "compress", "([CI[BII)I"⟩
abbrev yB : ByteArray := jdk_52_method_21_code
theorem d0 : decode yB 0 = .ok (.iconst 0, 1) := by decide +kernel
theorem d1 : decode yB 1 = .ok (.istore 5, 2) := by decide +kernel
theorem d3 : decode yB 3 = .ok (.iload 5, 2) := by decide +kernel
theorem d5 : decode yB 5 = .ok (.iload 4, 2) := by decide +kernel
theorem d7 : decode yB 7 = .ok (.if_icmp (.ge) 37, 3) := by decide +kernel
theorem d10 : decode yB 10 = .ok (.aload_n 0, 1) := by decide +kernel
theorem d11 : decode yB 11 = .ok (.iload_n 1, 1) := by decide +kernel
theorem d12 : decode yB 12 = .ok (.caload, 1) := by decide +kernel
theorem d13 : decode yB 13 = .ok (.istore 6, 2) := by decide +kernel
theorem d15 : decode yB 15 = .ok (.iload 6, 2) := by decide +kernel
theorem d17 : decode yB 17 = .ok (.sipush 255, 3) := by decide +kernel
theorem d20 : decode yB 20 = .ok (.if_icmp (.le) 6, 3) := by decide +kernel
theorem d26 : decode yB 26 = .ok (.aload_n 2, 1) := by decide +kernel
theorem d27 : decode yB 27 = .ok (.iload_n 3, 1) := by decide +kernel
theorem d28 : decode yB 28 = .ok (.iload 6, 2) := by decide +kernel
theorem d30 : decode yB 30 = .ok (.i2b, 1) := by decide +kernel
theorem d31 : decode yB 31 = .ok (.bastore, 1) := by decide +kernel
theorem d32 : decode yB 32 = .ok (.iinc 1 1, 3) := by decide +kernel
theorem d35 : decode yB 35 = .ok (.iinc 3 1, 3) := by decide +kernel
theorem d38 : decode yB 38 = .ok (.iinc 5 1, 3) := by decide +kernel
theorem d41 : decode yB 41 = .ok (.goto (-38), 3) := by decide +kernel
theorem d44 : decode yB 44 = .ok (.iload 4, 2) := by decide +kernel
theorem d46 : decode yB 46 = .ok (.ireturn, 1) := by decide +kernel
def site : List Cond := []
def tab : Cond := tabOf yN yB 7 (some .int) site
def P (b : Addr) (A : Cell) (d : Addr) (B : Cell) (o q len : Nat) (args : Array Value) (s : State) : Prop := args = #[.ref b, .int (Int32.ofNat o), .ref d, .int (Int32.ofNat q), .int (Int32.ofNat len)] ∧ Ch b A s ∧ Arr .byte d B s ∧ b ≠ d ∧ o + len ≤ A.slots.size ∧ q + len ≤ B.slots.size ∧ ∀ i, i < len → ¬ 255 < cv A (o + i)
def E (b : Addr) (A : Cell) (d : Addr) (B : Cell) (o q len : Nat) (r : Option Value) (s u : State) : Prop := r = some (.int (Int32.ofNat len)) ∧ ∃ B', Put d B' s u ∧ Laid B B' q (q + len) (fun j => Value.int (lo8 (cv A (o + (j - q)))))
/-- no char of the range above 255: len; the places written hold each char's low byte -/
theorem law (l : Launch) (b : Addr) (A : Cell) (d : Addr) (B : Cell) (o q len : Nat) : Law l yN 5 5 0 0 yB 7 (some .int) site (P b A d B o q len) (E b A d B o q len) (copyLocs d q len) 0 0 := by
  refine Law.of_walk (plainFor_of_name (by decide +kernel)) (by decide +kernel) (by decide +kernel) (by decide) (fun _ _ h => by rw [h.1]; rfl) (fun _ U U' hal hh h => ⟨h.1, h.2.1.mv hal hh, h.2.2.1.mv hal hh, h.2.2.2⟩) (fun r U U' V V' h1 hal h2 h => ⟨h.1, h.2.elim fun B' q => ⟨B', q.1.mv h1 h2, q.2⟩⟩) ?_
  intro p e s m args below meth c s₁ X0 hexec hbytes hml hret hlk hnm hown hh0 W hP
  obtain ⟨rfl, hA, hB, hne, l1, l2, hp⟩ := hP
  have c1 : Steps p.tables e below (s₁.setTop (entryFrame m #[.ref b, .int (Int32.ofNat o), .ref d, .int (Int32.ofNat q), .int (Int32.ofNat len)] 7)) (s₁.setTop (mkF m 0 #[.val (.ref b), .val (.int (Int32.ofNat o)), .val (.ref d), .val (.int (Int32.ofNat q)), .val (.int (Int32.ofNat len)), .unset, .unset] [])) := entry rfl
  have hA0 := hA.1.mv X0.warmed.alike hh0
  have hB0 := hB.mv X0.warmed.alike hh0
  have a31 := hA.1.2.2.2
  have c2 : Steps p.tables e below (s₁.setTop (entryFrame m #[.ref b, .int (Int32.ofNat o), .ref d, .int (Int32.ofNat q), .int (Int32.ofNat len)] 7)) (s₁.setTop (mkF m 3 #[.val (.ref b), .val (.int (Int32.ofNat o)), .val (.ref d), .val (.int (Int32.ofNat q)), .val (.int (Int32.ofNat len)), .val (.int 0), .unset] [])) := c1.trans (by
    refine iconstV X0.here hexec rfl 0 (hb hbytes d0) (by decide) ?_
    refine XS.istore X0.here hexec rfl (hb hbytes d1) rfl rfl ?_
    exact Steps.refl _)
  have loop : ∀ (r i : Nat), i + r = len → ∀ (z : Slot), (z = .unset ∨ ∃ w, z = .val w ∧ w.category = 1) → ∀ (Tl : State) (Bk : Cell), Stand p l e { frames := 0, locals := 0, cells := 0, slots := 0 } s m #[.ref b, .int (Int32.ofNat o), .ref d, .int (Int32.ofNat q), .int (Int32.ofNat len)] below meth c Tl ([] ++ copyLocs d q i) 0 0 → Put d Bk s₁ Tl → Laid B Bk q (q + i) (fun j => Value.int (lo8 (cv A (o + (j - q))))) →
      Steps p.tables e below (s₁.setTop (entryFrame m #[.ref b, .int (Int32.ofNat o), .ref d, .int (Int32.ofNat q), .int (Int32.ofNat len)] 7)) (Tl.setTop (mkF m 3 #[.val (.ref b), .val (.int (Int32.ofNat (o + i))), .val (.ref d), .val (.int (Int32.ofNat (q + i))), .val (.int (Int32.ofNat len)), .val (.int (Int32.ofNat i)), z] [])) → ∃ (T' : State) (B' : Cell) (z' : Slot), Stand p l e { frames := 0, locals := 0, cells := 0, slots := 0 } s m #[.ref b, .int (Int32.ofNat o), .ref d, .int (Int32.ofNat q), .int (Int32.ofNat len)] below meth c T' ([] ++ copyLocs d q len) 0 0 ∧ Put d B' s₁ T' ∧ Laid B B' q (q + len) (fun j => Value.int (lo8 (cv A (o + (j - q))))) ∧
      Steps p.tables e below (s₁.setTop (entryFrame m #[.ref b, .int (Int32.ofNat o), .ref d, .int (Int32.ofNat q), .int (Int32.ofNat len)] 7)) (T'.setTop (mkF m 3 #[.val (.ref b), .val (.int (Int32.ofNat (o + len))), .val (.ref d), .val (.int (Int32.ofNat (q + len))), .val (.int (Int32.ofNat len)), .val (.int (Int32.ofNat len)), z'] [])) := by
    intro r
    induction r with
    | zero =>
      intro i hi z hz Tl Bk Xl pl fl cl
      have hil : i = len := by omega
      rw [hil] at Xl fl cl
      exact ⟨Tl, Bk, z, Xl, pl, fl, cl⟩
    | succ r ih =>
      intro i hi z hz Tl Bk Xl pl fl cl
      have all := X0.warmed.alike.symm.trans Xl.warmed.alike
      have hAl := hA0.keep all (pl.other hne hA0.1)
      have hBk := hB0.like all pl.1 fl.1 fl.2.1 fl.2.2.1
      have hlt : q + i < Bk.slots.size := by rw [fl.2.2.1]; omega
      have c3 : Steps p.tables e below (s₁.setTop (entryFrame m #[.ref b, .int (Int32.ofNat o), .ref d, .int (Int32.ofNat q), .int (Int32.ofNat len)] 7)) (Tl.setTop (mkF m 12 #[.val (.ref b), .val (.int (Int32.ofNat (o + i))), .val (.ref d), .val (.int (Int32.ofNat (q + i))), .val (.int (Int32.ofNat len)), .val (.int (Int32.ofNat i)), z] [.int (Int32.ofNat (o + i)), .ref b])) := cl.trans (by
        refine XS.iload Xl.here hexec rfl (hb hbytes d3) rfl ?_
        refine XS.iload Xl.here hexec rfl (hb hbytes d5) rfl ?_
        refine XS.icmpNo Xl.here hexec rfl (hb hbytes d7) rfl (ii_ge_f (lt32 (by omega) (by omega))) ?_
        refine XS.aloadN Xl.here hexec rfl (hb hbytes d10) rfl rfl ?_
        refine XS.iloadN Xl.here hexec rfl (hb hbytes d11) rfl ?_
        exact Steps.refl _)
      have c4 : Steps p.tables e below (s₁.setTop (entryFrame m #[.ref b, .int (Int32.ofNat o), .ref d, .int (Int32.ofNat q), .int (Int32.ofNat len)] 7)) (Tl.setTop (mkF m 13 #[.val (.ref b), .val (.int (Int32.ofNat (o + i))), .val (.ref d), .val (.int (Int32.ofNat (q + i))), .val (.int (Int32.ofNat len)), .val (.int (Int32.ofNat i)), z] [.int (cv A (o + i))])) := c3.trans (by
        refine Xl.aget hexec hAl rfl (hA.get (i := o + i) (by omega)) rfl rfl (hb hbytes d12) ?_
        exact Steps.refl _)
      have c5 : Steps p.tables e below (s₁.setTop (entryFrame m #[.ref b, .int (Int32.ofNat o), .ref d, .int (Int32.ofNat q), .int (Int32.ofNat len)] 7)) (Tl.setTop (mkF m 15 #[.val (.ref b), .val (.int (Int32.ofNat (o + i))), .val (.ref d), .val (.int (Int32.ofNat (q + i))), .val (.int (Int32.ofNat len)), .val (.int (Int32.ofNat i)), .val (.int (cv A (o + i)))] [])) := c4.trans (by
        refine XS.istoreS Xl.here hexec rfl (hb hbytes d13) rfl rfl hz ?_
        exact Steps.refl _)
      have c6 : Steps p.tables e below (s₁.setTop (entryFrame m #[.ref b, .int (Int32.ofNat o), .ref d, .int (Int32.ofNat q), .int (Int32.ofNat len)] 7)) (Tl.setTop (mkF m 31 #[.val (.ref b), .val (.int (Int32.ofNat (o + i))), .val (.ref d), .val (.int (Int32.ofNat (q + i))), .val (.int (Int32.ofNat len)), .val (.int (Int32.ofNat i)), .val (.int (cv A (o + i)))] [.int (lo8 (cv A (o + i))), .int (Int32.ofNat (q + i)), .ref d])) := c5.trans (by
        refine XS.iload Xl.here hexec rfl (hb hbytes d15) rfl ?_
        refine sipushV Xl.here hexec rfl 255 (hb hbytes d17) (by decide) ?_
        refine XS.icmpYes Xl.here hexec rfl (pc0 := 20) rfl (hb hbytes d20) rfl (ii_le_t (hp i (by omega))) (by decide) rfl ?_
        refine XS.aloadN Xl.here hexec rfl (hb hbytes d26) rfl rfl ?_
        refine XS.iloadN Xl.here hexec rfl (hb hbytes d27) rfl ?_
        refine XS.iload Xl.here hexec rfl (hb hbytes d28) rfl ?_
        refine i2b Xl.here hexec rfl (hb hbytes d30) rfl ?_
        exact Steps.refl _)
      obtain ⟨T7, X7, p7, st7⟩ := Xl.aput hexec hBk rfl hlt rfl (fits_lo8 (cv A (o + i))) (g := (mkF m 31 #[.val (.ref b), .val (.int (Int32.ofNat (o + i))), .val (.ref d), .val (.int (Int32.ofNat (q + i))), .val (.int (Int32.ofNat len)), .val (.int (Int32.ofNat i)), .val (.int (cv A (o + i)))] [.int (lo8 (cv A (o + i))), .int (Int32.ofNat (q + i)), .ref d])) rfl (rest := []) rfl (hb hbytes d31)
      have c8 : Steps p.tables e below (s₁.setTop (entryFrame m #[.ref b, .int (Int32.ofNat o), .ref d, .int (Int32.ofNat q), .int (Int32.ofNat len)] 7)) (T7.setTop (mkF m 32 #[.val (.ref b), .val (.int (Int32.ofNat (o + i))), .val (.ref d), .val (.int (Int32.ofNat (q + i))), .val (.int (Int32.ofNat len)), .val (.int (Int32.ofNat i)), .val (.int (cv A (o + i)))] [])) := c6.trans (st7 _ (Steps.refl _))
      have c9 : Steps p.tables e below (s₁.setTop (entryFrame m #[.ref b, .int (Int32.ofNat o), .ref d, .int (Int32.ofNat q), .int (Int32.ofNat len)] 7)) (T7.setTop (mkF m 3 #[.val (.ref b), .val (.int (Int32.ofNat (o + i) + 1)), .val (.ref d), .val (.int (Int32.ofNat (q + i) + 1)), .val (.int (Int32.ofNat len)), .val (.int (Int32.ofNat i + 1)), .val (.int (cv A (o + i)))] [])) := c8.trans (by
        refine iincV X7.here hexec rfl 1 (hb hbytes d32) (by decide) rfl rfl ?_
        refine iincV X7.here hexec rfl 1 (hb hbytes d35) (by decide) rfl rfl ?_
        refine iincV X7.here hexec rfl 1 (hb hbytes d38) (by decide) rfl rfl ?_
        refine XS.goto X7.here hexec rfl (pc0 := 41) rfl (hb hbytes d41) (by decide) rfl ?_
        exact Steps.refl _)
      have c10 : Steps p.tables e below (s₁.setTop (entryFrame m #[.ref b, .int (Int32.ofNat o), .ref d, .int (Int32.ofNat q), .int (Int32.ofNat len)] 7)) (T7.setTop (mkF m 3 #[.val (.ref b), .val (.int (Int32.ofNat (o + (i + 1)))), .val (.ref d), .val (.int (Int32.ofNat (q + (i + 1)))), .val (.int (Int32.ofNat len)), .val (.int (Int32.ofNat (i + 1))), .val (.int (cv A (o + i)))] [])) := by
        have := c9
        rw [succ32, succ32, succ32] at this
        exact this
      exact ih (i + 1) (by omega) _ (Or.inr ⟨_, rfl, rfl⟩) T7 _ (by rw [copyLocs_step, ← List.append_assoc]; exact X7) (pl.trans p7) (fl.step (by omega) hlt (by simp)) c10
  obtain ⟨T9, B9, z9, X9, p9, f9, g9⟩ := loop len 0 (by omega) .unset (Or.inl rfl) s₁ B (by simpa [copyLocs] using X0) ⟨hB0.1, fun _ _ => rfl, rfl⟩ (Laid.zero _ _ _) c2
  have c11 : Steps p.tables e below (s₁.setTop (entryFrame m #[.ref b, .int (Int32.ofNat o), .ref d, .int (Int32.ofNat q), .int (Int32.ofNat len)] 7)) (T9.setTop (mkF m 46 #[.val (.ref b), .val (.int (Int32.ofNat (o + len))), .val (.ref d), .val (.int (Int32.ofNat (q + len))), .val (.int (Int32.ofNat len)), .val (.int (Int32.ofNat len)), z9] [.int (Int32.ofNat len)])) := g9.trans (by
    refine XS.iload X9.here hexec rfl (hb hbytes d3) rfl ?_
    refine XS.iload X9.here hexec rfl (hb hbytes d5) rfl ?_
    refine XS.icmpYes X9.here hexec rfl (pc0 := 7) rfl (hb hbytes d7) rfl (ii_ge_t (nlt32 (by omega) (Nat.le_refl _))) (by decide) rfl ?_
    refine XS.iload X9.here hexec rfl (hb hbytes d44) rfl ?_
    exact Steps.refl _)
  exact ⟨T9, some (.int (Int32.ofNat len)), _, _, _, X9, by simp, rfl, rfl, (fun h => by cases h), ⟨rfl, B9, p9.from hh0, f9⟩, fun fs hl => c11.trans (X9.ireturnOut hexec hret rfl (Or.inl rfl) (hb hbytes d46) hl)⟩
end Cmp5
namespace Cmp3
def yN : MethodName := ⟨"java/lang/StringUTF16", "compress", "([CII)[B"⟩
abbrev yB : ByteArray := jdk_52_method_16_code
theorem d0 : decode yB 0 = .ok (.iload_n 2, 1) := by decide +kernel
theorem d1 : decode yB 1 = .ok (.newarray .byte, 2) := by decide +kernel
theorem d3 : decode yB 3 = .ok (.astore_n 3, 1) := by decide +kernel
theorem d4 : decode yB 4 = .ok (.aload_n 0, 1) := by decide +kernel
theorem d5 : decode yB 5 = .ok (.iload_n 1, 1) := by decide +kernel
theorem d6 : decode yB 6 = .ok (.aload_n 3, 1) := by decide +kernel
theorem d7 : decode yB 7 = .ok (.iconst 0, 1) := by decide +kernel
theorem d8 : decode yB 8 = .ok (.iload_n 2, 1) := by decide +kernel
theorem d9 : decode yB 9 = .ok (.invokestatic 115, 3) := by decide +kernel
theorem d12 : decode yB 12 = .ok (.istore 4, 2) := by decide +kernel
theorem d14 : decode yB 14 = .ok (.iload 4, 2) := by decide +kernel
theorem d16 : decode yB 16 = .ok (.iload_n 2, 1) := by decide +kernel
theorem d17 : decode yB 17 = .ok (.if_icmp (.eq) 40, 3) := by decide +kernel
theorem d57 : decode yB 57 = .ok (.aload_n 3, 1) := by decide +kernel
theorem d58 : decode yB 58 = .ok (.areturn, 1) := by decide +kernel
def site : List Cond := [.arrayClass .byte, Cmp5.tab] ++ staticW U16 115 Cmp5.yN
def tab : Cond := tabOf yN yB 6 (some (.array .byte)) site
def P (b : Addr) (A : Cell) (o len : Nat) (args : Array Value) (s : State) : Prop := args = #[.ref b, .int (Int32.ofNat o), .int (Int32.ofNat len)] ∧ Ch b A s ∧ o + len ≤ A.slots.size ∧ len ≤ 536870912 ∧ ∀ i, i < len → ¬ 255 < cv A (o + i)
def E (b : Addr) (A : Cell) (o len : Nat) (r : Option Value) (s u : State) : Prop := NewArr .byte "[B" len (fun j => .int (lo8 (cv A (o + j)))) r s u ∧ u.heap.size = s.heap.size + 1
/-- no char of the range above 255: a new byte[] of their low bytes -/
theorem law (l : Launch) (b : Addr) (A : Cell) (o len : Nat) : Law l yN 3 3 1 18 yB 6 (some (.array .byte)) site (P b A o len) (E b A o len) [] 1 len := by
  refine Law.of_walk (plainFor_of_name (by decide +kernel)) (by decide +kernel) (by decide +kernel) (by decide) (fun _ _ h => by rw [h.1]; rfl) (fun _ U U' hal hh h => ⟨h.1, h.2.1.mv hal hh, h.2.2⟩) (fun r U U' V V' h1 hal h2 h => ⟨NewArr.mv r U U' V V' h1 hal h2 h.1, by rw [h1, h2]; exact h.2⟩) ?_
  intro p e s m args below meth c s₁ X0 hexec hbytes hml hret hlk hnm hown hh0 W hP
  obtain ⟨rfl, hA, l1, l2, hp⟩ := hP
  have a31 := hA.1.2.2.2
  have c1 : Steps p.tables e below (s₁.setTop (entryFrame m #[.ref b, .int (Int32.ofNat o), .int (Int32.ofNat len)] 6)) (s₁.setTop (mkF m 0 #[.val (.ref b), .val (.int (Int32.ofNat o)), .val (.int (Int32.ofNat len)), .unset, .unset, .unset] [])) := entry rfl
  have c2 : Steps p.tables e below (s₁.setTop (entryFrame m #[.ref b, .int (Int32.ofNat o), .int (Int32.ofNat len)] 6)) (s₁.setTop (mkF m 1 #[.val (.ref b), .val (.int (Int32.ofNat o)), .val (.int (Int32.ofNat len)), .unset, .unset, .unset] [.int (Int32.ofNat len)])) := c1.trans (by
    refine XS.iloadN X0.here hexec rfl (hb hbytes d0) rfl ?_
    exact Steps.refl _)
  obtain ⟨T3, B3, X3, ba3, bs3, bv3, bh3, bf3, st3⟩ := X0.anew hexec (atype := .byte) (wk W (.arrayClass .byte)) rfl (by show len * 1 ≤ _; omega) (by omega) (g := (mkF m 1 #[.val (.ref b), .val (.int (Int32.ofNat o)), .val (.int (Int32.ofNat len)), .unset, .unset, .unset] [.int (Int32.ofNat len)])) rfl (hb hbytes d1) (rest := []) rfl (Nat.le_refl _) (by show 0 + len ≤ len; omega)
  rw [hh0] at ba3 st3
  have kp3 : XT.Kept s T3 := (XT.Kept.of_eq hh0).push bh3
  have hA3 := hA.keep X3.warmed.alike (kp3 _ _ hA.1.1)
  have hne : b ≠ s.heap.size := hA.1.ne
  have c4 : Steps p.tables e below (s₁.setTop (entryFrame m #[.ref b, .int (Int32.ofNat o), .int (Int32.ofNat len)] 6)) (T3.setTop (mkF m 3 #[.val (.ref b), .val (.int (Int32.ofNat o)), .val (.int (Int32.ofNat len)), .unset, .unset, .unset] [.ref s.heap.size])) := c2.trans (st3 _ (Steps.refl _))
  have c5 : Steps p.tables e below (s₁.setTop (entryFrame m #[.ref b, .int (Int32.ofNat o), .int (Int32.ofNat len)] 6)) (T3.setTop (mkF m 9 #[.val (.ref b), .val (.int (Int32.ofNat o)), .val (.int (Int32.ofNat len)), .val (.ref s.heap.size), .unset, .unset] [.int (Int32.ofNat len), .int 0, .ref s.heap.size, .int (Int32.ofNat o), .ref b])) := c4.trans (by
    refine XS.astoreN X3.here hexec rfl (hb hbytes d3) rfl rfl rfl ?_
    refine XS.aloadN X3.here hexec rfl (hb hbytes d4) rfl rfl ?_
    refine XS.iloadN X3.here hexec rfl (hb hbytes d5) rfl ?_
    refine XS.aloadN X3.here hexec rfl (hb hbytes d6) rfl rfl ?_
    refine iconstV X3.here hexec rfl 0 (hb hbytes d7) (by decide) ?_
    refine XS.iloadN X3.here hexec rfl (hb hbytes d8) rfl ?_
    exact Steps.refl _)
  obtain ⟨v6, T6, X6, E6, g6⟩ := X3.callS hexec (Cmp5.law l b A s.heap.size B3 o 0 len) hown (wks W (staticW U16 115 Cmp5.yN)) (wk W Cmp5.tab) (W := 0) (Nat.le_of_ble_eq_true rfl) (Nat.le_of_ble_eq_true rfl) (Nat.le_refl _) (by show 0 + len + 0 ≤ len; omega) (g := (mkF m 9 #[.val (.ref b), .val (.int (Int32.ofNat o)), .val (.int (Int32.ofNat len)), .val (.ref s.heap.size), .unset, .unset] [.int (Int32.ofNat len), .int (Int32.ofNat 0), .ref s.heap.size, .int (Int32.ofNat o), .ref b])) rfl (by rw [hml]; rfl) c5 (argsL := [.ref b, .int (Int32.ofNat o), .ref s.heap.size, .int (Int32.ofNat 0), .int (Int32.ofNat len)]) (rest := []) rfl rfl (by show 2 * 0 + 0 ≤ _; decide) (hb hbytes d9) (⟨rfl, hA3, ba3, hne, l1, by rw [bs3]; simp, hp⟩)
  obtain ⟨rfl, B6, p6, f6⟩ := E6
  have c7 : Steps p.tables e below (s₁.setTop (entryFrame m #[.ref b, .int (Int32.ofNat o), .int (Int32.ofNat len)] 6)) (T6.setTop (mkF m 12 #[.val (.ref b), .val (.int (Int32.ofNat o)), .val (.int (Int32.ofNat len)), .val (.ref s.heap.size), .unset, .unset] [.int (Int32.ofNat len)])) := g6
  have c8 : Steps p.tables e below (s₁.setTop (entryFrame m #[.ref b, .int (Int32.ofNat o), .int (Int32.ofNat len)] 6)) (T6.setTop (mkF m 58 #[.val (.ref b), .val (.int (Int32.ofNat o)), .val (.int (Int32.ofNat len)), .val (.ref s.heap.size), .val (.int (Int32.ofNat len)), .unset] [.ref s.heap.size])) := c7.trans (by
    refine XS.istore X6.here hexec rfl (hb hbytes d12) rfl rfl ?_
    refine XS.iload X6.here hexec rfl (hb hbytes d14) rfl ?_
    refine XS.iloadN X6.here hexec rfl (hb hbytes d16) rfl ?_
    refine XS.icmpYes X6.here hexec rfl (pc0 := 17) rfl (hb hbytes d17) rfl (ii_eq_t rfl) (by decide) rfl ?_
    refine XS.aloadN X6.here hexec rfl (hb hbytes d57) rfl rfl ?_
    exact Steps.refl _)
  have X8 := X6.wide (L' := []) (cells' := 1) (slots' := len) (fun x hx hlt => by
    simp only [List.nil_append, copyLocs, List.mem_map, List.mem_range] at hx
    obtain ⟨i, -, rfl⟩ := hx
    exact absurd hlt (Nat.lt_irrefl _)) (Nat.le_refl _) (by omega)
  exact ⟨T6, some (.ref s.heap.size), _, _, _, X8, rfl, rfl, rfl, (fun h => by cases h), ⟨⟨rfl, B6, ba3.like (X3.warmed.alike.symm.trans X6.warmed.alike) p6.1 f6.1 f6.2.1 f6.2.2.1, f6.2.1.trans bv3, by rw [X6.warmed.alike.findClass, f6.1]; exact bf3, by rw [f6.2.2.1, bs3]; simp, fun j hj => by rw [f6.2.2.2 j, if_pos (by omega)]; rfl, kp3.put p6 (Nat.le_refl _)⟩, by rw [p6.2.2, bh3, hh0]; simp⟩, fun fs hl => c8.trans (X8.areturnOut hexec rfl hret rfl (hb hbytes d58) hl)⟩
end Cmp3
namespace CodL
def yN : MethodName := ⟨"java/lang/StringUTF16", "coderFromArrayLen", "([BI)B"⟩
abbrev yB : ByteArray := jdk_52_method_15_code
theorem d0 : decode yB 0 = .ok (.iload_n 1, 1) := by decide +kernel
theorem d1 : decode yB 1 = .ok (.aload_n 0, 1) := by decide +kernel
theorem d2 : decode yB 2 = .ok (.arraylength, 1) := by decide +kernel
theorem d3 : decode yB 3 = .ok (.isub, 1) := by decide +kernel
theorem d4 : decode yB 4 = .ok (.bipush 31, 2) := by decide +kernel
theorem d6 : decode yB 6 = .ok (.iushr, 1) := by decide +kernel
theorem d7 : decode yB 7 = .ok (.i2b, 1) := by decide +kernel
theorem d8 : decode yB 8 = .ok (.ireturn, 1) := by decide +kernel
def site : List Cond := []
def tab : Cond := tabOf yN yB 2 (some .byte) site
def P (d : Addr) (B : Cell) (args : Array Value) (s : State) : Prop := args = #[.ref d, .int (Int32.ofNat B.slots.size)] ∧ Arr .byte d B s
def E (r : Option Value) (s u : State) : Prop := XT.PureE (some (.int 0)) r s u
/-- an array as long as the number of chars: LATIN1 -/
theorem law (l : Launch) (d : Addr) (B : Cell) : Law l yN 2 2 0 0 yB 2 (some .byte) site (P d B) E [] 0 0 := by
  refine Law.of_walk (plainFor_of_name (by decide +kernel)) (by decide +kernel) (by decide +kernel) (by decide) (fun _ _ h => by rw [h.1]; rfl) (fun _ U U' hal hh h => ⟨h.1, h.2.mv hal hh⟩) (fun r U U' V V' h1 hal h2 h => XT.PureE.mv r U U' V V' h1 hal h2 h) ?_
  intro p e s m args below meth c s₁ X0 hexec hbytes hml hret hlk hnm hown hh0 W hP
  obtain ⟨rfl, hB⟩ := hP
  have hB0 := hB.mv X0.warmed.alike hh0
  have c1 : Steps p.tables e below (s₁.setTop (entryFrame m #[.ref d, .int (Int32.ofNat B.slots.size)] 2)) (s₁.setTop (mkF m 0 #[.val (.ref d), .val (.int (Int32.ofNat B.slots.size))] [])) := entry rfl
  have c2 : Steps p.tables e below (s₁.setTop (entryFrame m #[.ref d, .int (Int32.ofNat B.slots.size)] 2)) (s₁.setTop (mkF m 2 #[.val (.ref d), .val (.int (Int32.ofNat B.slots.size))] [.ref d, .int (Int32.ofNat B.slots.size)])) := c1.trans (by
    refine XS.iloadN X0.here hexec rfl (hb hbytes d0) rfl ?_
    refine XS.aloadN X0.here hexec rfl (hb hbytes d1) rfl rfl ?_
    exact Steps.refl _)
  have c3 : Steps p.tables e below (s₁.setTop (entryFrame m #[.ref d, .int (Int32.ofNat B.slots.size)] 2)) (s₁.setTop (mkF m 8 #[.val (.ref d), .val (.int (Int32.ofNat B.slots.size))] [.int (lo8 (ushr (Int32.ofNat B.slots.size - Int32.ofNat B.slots.size) 31))])) := c2.trans (by
    refine X0.alen hexec hB0 rfl rfl (hb hbytes d2) ?_
    refine XS.isub X0.here hexec rfl (hb hbytes d3) rfl ?_
    refine bipushV X0.here hexec rfl 31 (hb hbytes d4) (by decide) ?_
    refine iushr X0.here hexec rfl (hb hbytes d6) rfl ?_
    refine i2b X0.here hexec rfl (hb hbytes d7) rfl ?_
    exact Steps.refl _)
  have e0 : lo8 (ushr (Int32.ofNat B.slots.size - Int32.ofNat B.slots.size) 31) = 0 := by rw [Int32.sub_self]; decide
  rw [e0] at c3
  exact ⟨s₁, some (.int 0), _, _, _, X0, rfl, rfl, rfl, (fun h => by cases h), ⟨rfl, hh0⟩, fun fs hl => c3.trans (X0.ireturnOut hexec hret rfl (Or.inr (Or.inr (Or.inl rfl))) (hb hbytes d8) hl)⟩
end CodL
/-- the String at a is Latin-1 over a new byte[] (the heap's one new cell): the low bytes of the len chars of A from o on; every cell but a is kept -/
def Got (a : Addr) (D : Cell) (fV fC : Field) (A : Cell) (o len : Nat) (r : Option Value) (s u : State) : Prop := r = none ∧ ∃ D' V : Cell, Blank "java/lang/String" a D' u ∧ Same D D' [fV.slot, fC.slot] ∧ D'.slots[fV.slot]? = some (.ref s.heap.size) ∧ D'.slots[fC.slot]? = some (.int 0) ∧ Arr .byte s.heap.size V u ∧ V.vm = .none ∧ u.vm.findClass "[B" = some V.cls ∧ V.slots.size = len ∧ (∀ j, j < len → V.slots[j]? = some (.int (lo8 (cv A (o + j))))) ∧ (∀ (y : Addr) (c : Cell), y ≠ a → s.heap[y]? = some c → u.heap[y]? = some c) ∧ u.heap.size = s.heap.size + 1
theorem Got.mv {a : Addr} {D A : Cell} {fV fC : Field} {o len : Nat} : ∀ r (U U' V V' : State), U'.heap = U.heap → V.vm.Alike V'.vm → V'.heap = V.heap → Got a D fV fC A o len r U V → Got a D fV fC A o len r U' V' :=
  fun r U U' V V' h1 hal h2 ⟨e0, D', X, a1, a2, a3, a4, a5, a6, a7, a8, a9, a10, a11⟩ => ⟨e0, D', X, a1.mv hal h2, a2, by rw [h1]; exact a3, a4, by rw [h1]; exact a5.mv hal h2, a6, by rw [hal.findClass]; exact a7, a8, a9, by rw [h1, h2]; exact a10, by rw [h1, h2]; exact a11⟩
namespace New4
def yN : MethodName := ⟨"java/lang/String", "<init>", "([CIILjava/lang/Void;)V"⟩
abbrev yB : ByteArray := jdk_42_method_149_code
theorem d0 : decode yB 0 = .ok (.aload_n 0, 1) := by decide +kernel
theorem d1 : decode yB 1 = .ok (.invokespecial 1, 3) := by decide +kernel
theorem d4 : decode yB 4 = .ok (.iload_n 3, 1) := by decide +kernel
theorem d5 : decode yB 5 = .ok (.ifCond (.ne) 22, 3) := by decide +kernel
theorem d27 : decode yB 27 = .ok (.getstatic 38, 3) := by decide +kernel
theorem d30 : decode yB 30 = .ok (.ifCond (.eq) 28, 3) := by decide +kernel
theorem d33 : decode yB 33 = .ok (.aload_n 1, 1) := by decide +kernel
theorem d34 : decode yB 34 = .ok (.iload_n 2, 1) := by decide +kernel
theorem d35 : decode yB 35 = .ok (.iload_n 3, 1) := by decide +kernel
theorem d36 : decode yB 36 = .ok (.invokestatic 177, 3) := by decide +kernel
theorem d39 : decode yB 39 = .ok (.astore 5, 2) := by decide +kernel
theorem d41 : decode yB 41 = .ok (.aload_n 0, 1) := by decide +kernel
theorem d42 : decode yB 42 = .ok (.aload 5, 2) := by decide +kernel
theorem d44 : decode yB 44 = .ok (.iload_n 3, 1) := by decide +kernel
theorem d45 : decode yB 45 = .ok (.invokestatic 47, 3) := by decide +kernel
theorem d48 : decode yB 48 = .ok (.putfield 15, 3) := by decide +kernel
theorem d51 : decode yB 51 = .ok (.aload_n 0, 1) := by decide +kernel
theorem d52 : decode yB 52 = .ok (.aload 5, 2) := by decide +kernel
theorem d54 : decode yB 54 = .ok (.putfield 9, 3) := by decide +kernel
theorem d57 : decode yB 57 = .ok (.return_, 1) := by decide +kernel
def site : List Cond := [.fieldLink "java/lang/String" 38 "java/lang/String" "COMPACT_STRINGS" "Z", Cmp3.tab, CodL.tab, .laysFinal "java/lang/String" "java/lang/String" "value" "[B", .fieldLink "java/lang/String" 9 "java/lang/String" "value" "[B", .laysFinal "java/lang/String" "java/lang/String" "coder" "B", .fieldLink "java/lang/String" 15 "java/lang/String" "coder" "B"] ++ objW "java/lang/String" 1 ++ staticW "java/lang/String" 177 Cmp3.yN ++ staticW "java/lang/String" 47 CodL.yN
def tab : Cond := tabOf yN yB 6 none site
def P (a : Addr) (D : Cell) (fV fC : Field) (b : Addr) (A : Cell) (z : Int32) (o len : Nat) (args : Array Value) (s : State) : Prop := args = #[.ref a, .ref b, .int (Int32.ofNat o), .int (Int32.ofNat len), .null] ∧ Blank "java/lang/String" a D s ∧ Found "java/lang/String" "value" "[B" fV s ∧ Found "java/lang/String" "coder" "B" fC s ∧ Ch b A s ∧ StaticIs s "java/lang/String" "COMPACT_STRINGS" "Z" (.int z) ∧ ¬ z = 0 ∧ 0 < len ∧ o + len ≤ A.slots.size ∧ len ≤ 536870912 ∧ ∀ i, i < len → ¬ 255 < cv A (o + i)
def E (a : Addr) (D : Cell) (fV fC : Field) (A : Cell) (o len : Nat) (r : Option Value) (s u : State) : Prop := Got a D fV fC A o len r s u
/-- len > 0, no char of the range above 255: a Latin-1 String of their low bytes -/
theorem law (l : Launch) (a : Addr) (D : Cell) (fV fC : Field) (b : Addr) (A : Cell) (z : Int32) (o len : Nat) : Law l yN 5 4 2 35 yB 6 none site (P a D fV fC b A z o len) (E a D fV fC A o len) [⟨a, fC.slot⟩, ⟨a, fV.slot⟩] 1 len := by
  refine Law.of_walk (plainFor_of_name (by decide +kernel)) (by decide +kernel) (by decide +kernel) (by decide) (fun _ _ h => by rw [h.1]; rfl) (fun _ U U' hal hh h => ⟨h.1, h.2.1.mv hal hh, h.2.2.1.al hal, h.2.2.2.1.al hal, h.2.2.2.2.1.mv hal hh, h.2.2.2.2.2.1.there hal hh, h.2.2.2.2.2.2⟩) (fun r U U' V V' h1 hal h2 h => Got.mv r U U' V V' h1 hal h2 h) ?_
  intro p e s m args below meth c s₁ X0 hexec hbytes hml hret hlk hnm hown hh0 W hP
  obtain ⟨rfl, hB, f1, f2, hA, s1, hz, l0, l1, l2, hp⟩ := hP
  have a31 := hA.1.2.2.2
  have c1 : Steps p.tables e below (s₁.setTop (entryFrame m #[.ref a, .ref b, .int (Int32.ofNat o), .int (Int32.ofNat len), .null] 6)) (s₁.setTop (mkF m 0 #[.val (.ref a), .val (.ref b), .val (.int (Int32.ofNat o)), .val (.int (Int32.ofNat len)), .val .null, .unset] [])) := entry rfl
  have c2 : Steps p.tables e below (s₁.setTop (entryFrame m #[.ref a, .ref b, .int (Int32.ofNat o), .int (Int32.ofNat len), .null] 6)) (s₁.setTop (mkF m 1 #[.val (.ref a), .val (.ref b), .val (.int (Int32.ofNat o)), .val (.int (Int32.ofNat len)), .val .null, .unset] [.ref a])) := c1.trans (by
    refine XS.aloadN X0.here hexec rfl (hb hbytes d0) rfl rfl ?_
    exact Steps.refl _)
  obtain ⟨T3, X3, q3, st3⟩ := X0.oinit hexec hown (wks W (objW "java/lang/String" 1)) (g := (mkF m 1 #[.val (.ref a), .val (.ref b), .val (.int (Int32.ofNat o)), .val (.int (Int32.ofNat len)), .val .null, .unset] [.ref a])) rfl (by rw [hml]; rfl) (rest := []) rfl (hb hbytes d1) (W := 0) (by show 2 * 0 + 0 ≤ _; decide) (Nat.le_of_ble_eq_true rfl) (Nat.le_of_ble_eq_true rfl)
  have hh3 := q3.trans hh0
  have c4 : Steps p.tables e below (s₁.setTop (entryFrame m #[.ref a, .ref b, .int (Int32.ofNat o), .int (Int32.ofNat len), .null] 6)) (T3.setTop (mkF m 27 #[.val (.ref a), .val (.ref b), .val (.int (Int32.ofNat o)), .val (.int (Int32.ofNat len)), .val .null, .unset] [])) := (c2.trans (st3 _ (Steps.refl _))).trans (by
    refine XS.iloadN X3.here hexec rfl (hb hbytes d4) rfl ?_
    refine XS.ifYes X3.here hexec rfl (pc0 := 5) rfl (hb hbytes d5) rfl (i0_ne_t (nz32 (by omega) l0)) (by decide) rfl ?_
    exact Steps.refl _)
  obtain ⟨T5, X5, q5, st5⟩ := X3.sget hexec hown (wk W (.fieldLink "java/lang/String" 38 "java/lang/String" "COMPACT_STRINGS" "Z")) s1 (fun _ _ h => by rw [hh3]; exact h) (g := (mkF m 27 #[.val (.ref a), .val (.ref b), .val (.int (Int32.ofNat o)), .val (.int (Int32.ofNat len)), .val .null, .unset] [])) rfl (hb hbytes d27)
  have hh5 := q5.trans hh3
  have c6 : Steps p.tables e below (s₁.setTop (entryFrame m #[.ref a, .ref b, .int (Int32.ofNat o), .int (Int32.ofNat len), .null] 6)) (T5.setTop (mkF m 30 #[.val (.ref a), .val (.ref b), .val (.int (Int32.ofNat o)), .val (.int (Int32.ofNat len)), .val .null, .unset] [.int z])) := c4.trans (st5 _ (Steps.refl _))
  have c7 : Steps p.tables e below (s₁.setTop (entryFrame m #[.ref a, .ref b, .int (Int32.ofNat o), .int (Int32.ofNat len), .null] 6)) (T5.setTop (mkF m 36 #[.val (.ref a), .val (.ref b), .val (.int (Int32.ofNat o)), .val (.int (Int32.ofNat len)), .val .null, .unset] [.int (Int32.ofNat len), .int (Int32.ofNat o), .ref b])) := c6.trans (by
    refine XS.ifNo X5.here hexec rfl (hb hbytes d30) rfl (i0_eq_f hz) ?_
    refine XS.aloadN X5.here hexec rfl (hb hbytes d33) rfl rfl ?_
    refine XS.iloadN X5.here hexec rfl (hb hbytes d34) rfl ?_
    refine XS.iloadN X5.here hexec rfl (hb hbytes d35) rfl ?_
    exact Steps.refl _)
  obtain ⟨v8, T8, X8, E8, g8⟩ := X5.callS hexec (Cmp3.law l b A o len) hown (wks W (staticW "java/lang/String" 177 Cmp3.yN)) (wk W Cmp3.tab) (W := 0) (Nat.le_of_ble_eq_true rfl) (Nat.le_of_ble_eq_true rfl) (Nat.le_refl _) (by show 0 + len ≤ len; omega) (g := (mkF m 36 #[.val (.ref a), .val (.ref b), .val (.int (Int32.ofNat o)), .val (.int (Int32.ofNat len)), .val .null, .unset] [.int (Int32.ofNat len), .int (Int32.ofNat o), .ref b])) rfl (by rw [hml]; rfl) c7 (argsL := [.ref b, .int (Int32.ofNat o), .int (Int32.ofNat len)]) (rest := []) rfl rfl (by show 2 * 0 + 0 ≤ _; decide) (hb hbytes d36) (⟨rfl, hA.mv X5.warmed.alike hh5, l1, l2, hp⟩)
  obtain ⟨e8, z8⟩ := E8
  obtain ⟨rfl, N, n1, n2, n3, n4, n5, n6⟩ := NewArr.mv _ T5 s _ _ hh5.symm (Vm.Alike.refl _) rfl e8
  rw [hh5] at z8
  have hB1 := hB.keep X8.warmed.alike (n6 _ _ hB.1)
  have hne : s.heap.size ≠ a := (Nat.ne_of_lt (Array.getElem?_eq_some_iff.mp hB.1).1).symm
  have c9 : Steps p.tables e below (s₁.setTop (entryFrame m #[.ref a, .ref b, .int (Int32.ofNat o), .int (Int32.ofNat len), .null] 6)) (T8.setTop (mkF m 39 #[.val (.ref a), .val (.ref b), .val (.int (Int32.ofNat o)), .val (.int (Int32.ofNat len)), .val .null, .unset] [.ref s.heap.size])) := g8
  have c10 : Steps p.tables e below (s₁.setTop (entryFrame m #[.ref a, .ref b, .int (Int32.ofNat o), .int (Int32.ofNat len), .null] 6)) (T8.setTop (mkF m 45 #[.val (.ref a), .val (.ref b), .val (.int (Int32.ofNat o)), .val (.int (Int32.ofNat len)), .val .null, .val (.ref s.heap.size)] [.int (Int32.ofNat N.slots.size), .ref s.heap.size, .ref a])) := by
    have hc : Steps p.tables e below (s₁.setTop (entryFrame m #[.ref a, .ref b, .int (Int32.ofNat o), .int (Int32.ofNat len), .null] 6)) (T8.setTop (mkF m 45 #[.val (.ref a), .val (.ref b), .val (.int (Int32.ofNat o)), .val (.int (Int32.ofNat len)), .val .null, .val (.ref s.heap.size)] [.int (Int32.ofNat len), .ref s.heap.size, .ref a])) := c9.trans (by
      refine XS.astore X8.here hexec rfl (hb hbytes d39) rfl rfl rfl ?_
      refine XS.aloadN X8.here hexec rfl (hb hbytes d41) rfl rfl ?_
      refine XS.aload X8.here hexec rfl (hb hbytes d42) rfl rfl ?_
      refine XS.iloadN X8.here hexec rfl (hb hbytes d44) rfl ?_
      exact Steps.refl _)
    rw [n4]; exact hc
  obtain ⟨v11, T11, X11, E11, g11⟩ := X8.callS hexec (CodL.law l s.heap.size N) hown (wks W (staticW "java/lang/String" 47 CodL.yN)) (wk W CodL.tab) (W := 1) (Nat.le_of_ble_eq_true rfl) (Nat.le_of_ble_eq_true rfl) (Nat.le_refl _) (by show 0 + len + 0 ≤ len; omega) (g := (mkF m 45 #[.val (.ref a), .val (.ref b), .val (.int (Int32.ofNat o)), .val (.int (Int32.ofNat len)), .val .null, .val (.ref s.heap.size)] [.int (Int32.ofNat N.slots.size), .ref s.heap.size, .ref a])) rfl (by rw [hml]; rfl) c10 (argsL := [.ref s.heap.size, .int (Int32.ofNat N.slots.size)]) (rest := [.ref a]) rfl rfl (by show 2 * 0 + (1 + 0) ≤ _; decide) (hb hbytes d45) (⟨rfl, n1⟩)
  obtain ⟨rfl, q11⟩ := E11
  have hB11 := hB1.mv (X8.warmed.alike.symm.trans X11.warmed.alike) q11
  have c12 : Steps p.tables e below (s₁.setTop (entryFrame m #[.ref a, .ref b, .int (Int32.ofNat o), .int (Int32.ofNat len), .null] 6)) (T11.setTop (mkF m 48 #[.val (.ref a), .val (.ref b), .val (.int (Int32.ofNat o)), .val (.int (Int32.ofNat len)), .val .null, .val (.ref s.heap.size)] [.int 0, .ref a])) := g11
  obtain ⟨T13, X13, p13, bl13, sl13, st13⟩ := X11.finit hexec hown (wk W (.fieldLink "java/lang/String" 15 "java/lang/String" "coder" "B")) (Or.inr ⟨_, (wk W (.laysFinal "java/lang/String" "java/lang/String" "coder" "B"))⟩) (Or.inl ⟨rfl, hnm⟩) f2 (Or.inl rfl) hB11 (t := .byte) (by decide +kernel) rfl (g := (mkF m 48 #[.val (.ref a), .val (.ref b), .val (.int (Int32.ofNat o)), .val (.int (Int32.ofNat len)), .val .null, .val (.ref s.heap.size)] [.int 0, .ref a])) rfl (rest := []) rfl (hb hbytes d48)
  have c14 : Steps p.tables e below (s₁.setTop (entryFrame m #[.ref a, .ref b, .int (Int32.ofNat o), .int (Int32.ofNat len), .null] 6)) (T13.setTop (mkF m 54 #[.val (.ref a), .val (.ref b), .val (.int (Int32.ofNat o)), .val (.int (Int32.ofNat len)), .val .null, .val (.ref s.heap.size)] [.ref s.heap.size, .ref a])) := (c12.trans (st13 _ (Steps.refl _))).trans (by
    refine XS.aloadN X13.here hexec rfl (hb hbytes d51) rfl rfl ?_
    refine XS.aload X13.here hexec rfl (hb hbytes d52) rfl rfl ?_
    exact Steps.refl _)
  obtain ⟨T15, X15, p15, bl15, sl15, st15⟩ := X13.finit hexec hown (wk W (.fieldLink "java/lang/String" 9 "java/lang/String" "value" "[B")) (Or.inr ⟨_, (wk W (.laysFinal "java/lang/String" "java/lang/String" "value" "[B"))⟩) (Or.inl ⟨rfl, hnm⟩) f1 (Or.inl rfl) bl13 (t := (.array .byte)) (by decide +kernel) rfl (g := (mkF m 54 #[.val (.ref a), .val (.ref b), .val (.int (Int32.ofNat o)), .val (.int (Int32.ofNat len)), .val .null, .val (.ref s.heap.size)] [.ref s.heap.size, .ref a])) rfl (rest := []) rfl (hb hbytes d54)
  have c16 : Steps p.tables e below (s₁.setTop (entryFrame m #[.ref a, .ref b, .int (Int32.ofNat o), .int (Int32.ofNat len), .null] 6)) (T15.setTop (mkF m 57 #[.val (.ref a), .val (.ref b), .val (.int (Int32.ofNat o)), .val (.int (Int32.ofNat len)), .val .null, .val (.ref s.heap.size)] [])) := c14.trans (st15 _ (Steps.refl _))
  have ap := apart (Or.inr ⟨_, (wk W (.laysFinal "java/lang/String" "java/lang/String" "value" "[B"))⟩) (Or.inr ⟨_, (wk W (.laysFinal "java/lang/String" "java/lang/String" "coder" "B"))⟩) f1 f2 (t₁ := .array .byte) (t₂ := .byte) (by decide +kernel) (by decide +kernel) (by decide)
  have al := X8.warmed.alike.symm.trans X15.warmed.alike
  have n7 : T11.heap[s.heap.size]? = some N := by rw [q11]; exact n1.1
  exact ⟨T15, none, _, _, _, X15, by simp, rfl, by omega, (fun _ => rfl), ⟨rfl, _, N, bl15, ((Same.refl D _).set _ (by simp)).set _ (by simp), sl15, (Cell.slots_setSlot_ne _ ap).trans sl13, n1.keep al (p15.other hne (p13.other hne n7)), n2, by rw [al.findClass]; exact n3, n4, n5, fun y c h1 h2 => p15.other h1 (p13.other h1 (by rw [q11]; exact n6 y c h2)), by rw [p15.2.2, p13.2.2, q11]; exact z8⟩, fun fs hl => c16.trans (X15.returnOut hexec hret (hb hbytes d57) hl)⟩
end New4
namespace New1
def yN : MethodName := ⟨"java/lang/String", "<init>", "([C)V"⟩
abbrev yB : ByteArray := jdk_42_method_3_code
theorem d0 : decode yB 0 = .ok (.aload_n 0, 1) := by decide +kernel
theorem d1 : decode yB 1 = .ok (.aload_n 1, 1) := by decide +kernel
theorem d2 : decode yB 2 = .ok (.iconst 0, 1) := by decide +kernel
theorem d3 : decode yB 3 = .ok (.aload_n 1, 1) := by decide +kernel
theorem d4 : decode yB 4 = .ok (.arraylength, 1) := by decide +kernel
theorem d5 : decode yB 5 = .ok (.aconst_null, 1) := by decide +kernel
theorem d6 : decode yB 6 = .ok (.invokespecial 27, 3) := by decide +kernel
theorem d9 : decode yB 9 = .ok (.return_, 1) := by decide +kernel
def site : List Cond := [New4.tab] ++ initW "java/lang/String" 27 New4.yN
def tab : Cond := tabOf yN yB 2 none site
def P (a : Addr) (D : Cell) (fV fC : Field) (b : Addr) (A : Cell) (z : Int32) (args : Array Value) (s : State) : Prop := args = #[.ref a, .ref b] ∧ Blank "java/lang/String" a D s ∧ Found "java/lang/String" "value" "[B" fV s ∧ Found "java/lang/String" "coder" "B" fC s ∧ Ch b A s ∧ StaticIs s "java/lang/String" "COMPACT_STRINGS" "Z" (.int z) ∧ ¬ z = 0 ∧ 0 < A.slots.size ∧ A.slots.size ≤ 536870912 ∧ ∀ i, i < A.slots.size → ¬ 255 < cv A i
def E (a : Addr) (D : Cell) (fV fC : Field) (A : Cell) (r : Option Value) (s u : State) : Prop := Got a D fV fC A 0 A.slots.size r s u
/-- new String(chars), not empty, no char above 255: a Latin-1 String of their low bytes -/
theorem law (l : Launch) (a : Addr) (D : Cell) (fV fC : Field) (b : Addr) (A : Cell) (z : Int32) : Law l yN 2 1 3 52 yB 2 none site (P a D fV fC b A z) (E a D fV fC A) [⟨a, fC.slot⟩, ⟨a, fV.slot⟩] 1 A.slots.size := by
  refine Law.of_walk (plainFor_of_name (by decide +kernel)) (by decide +kernel) (by decide +kernel) (by decide) (fun _ _ h => by rw [h.1]; rfl) (fun _ U U' hal hh h => ⟨h.1, h.2.1.mv hal hh, h.2.2.1.al hal, h.2.2.2.1.al hal, h.2.2.2.2.1.mv hal hh, h.2.2.2.2.2.1.there hal hh, h.2.2.2.2.2.2⟩) (fun r U U' V V' h1 hal h2 h => Got.mv r U U' V V' h1 hal h2 h) ?_
  intro p e s m args below meth c s₁ X0 hexec hbytes hml hret hlk hnm hown hh0 W hP
  obtain ⟨rfl, hB, f1, f2, hA, s1, hz, l0, l2, hp⟩ := hP
  have c1 : Steps p.tables e below (s₁.setTop (entryFrame m #[.ref a, .ref b] 2)) (s₁.setTop (mkF m 0 #[.val (.ref a), .val (.ref b)] [])) := entry rfl
  have c2 : Steps p.tables e below (s₁.setTop (entryFrame m #[.ref a, .ref b] 2)) (s₁.setTop (mkF m 6 #[.val (.ref a), .val (.ref b)] [.null, .int (Int32.ofNat A.slots.size), .int 0, .ref b, .ref a])) := c1.trans (by
    refine XS.aloadN X0.here hexec rfl (hb hbytes d0) rfl rfl ?_
    refine XS.aloadN X0.here hexec rfl (hb hbytes d1) rfl rfl ?_
    refine iconstV X0.here hexec rfl 0 (hb hbytes d2) (by decide) ?_
    refine XS.aloadN X0.here hexec rfl (hb hbytes d3) rfl rfl ?_
    refine X0.alen hexec (hA.1.mv X0.warmed.alike hh0) rfl rfl (hb hbytes d4) ?_
    refine XS.aconstNull X0.here hexec rfl (hb hbytes d5) ?_
    exact Steps.refl _)
  obtain ⟨v3, T3, X3, E3, g3⟩ := X0.callN hexec (New4.law l a D fV fC b A z 0 A.slots.size) rfl hown (wks W (initW "java/lang/String" 27 New4.yN)) (W New4.tab (by simp only [site, List.mem_cons, List.mem_append, true_or, or_true])) (W := 0) (Nat.le_of_ble_eq_true rfl) (Nat.le_of_ble_eq_true rfl) (Nat.le_refl _) (by show 0 + A.slots.size ≤ A.slots.size; omega) (g := (mkF m 6 #[.val (.ref a), .val (.ref b)] [.null, .int (Int32.ofNat A.slots.size), .int (Int32.ofNat 0), .ref b, .ref a])) rfl (by rw [hml]; rfl) c2 (argsL := [.ref b, .int (Int32.ofNat 0), .int (Int32.ofNat A.slots.size), .null]) (rest := []) rfl rfl (by show 2 * 0 + 0 ≤ _; decide) (hb hbytes d6) (⟨rfl, hB.mv X0.warmed.alike hh0, f1.al X0.warmed.alike, f2.al X0.warmed.alike, hA.mv X0.warmed.alike hh0, s1.there X0.warmed.alike hh0, hz, l0, by omega, l2, fun i hi => by rw [Nat.zero_add]; exact hp i hi⟩)
  have e0 := Got.mv _ s₁ s _ _ hh0.symm (Vm.Alike.refl _) rfl E3
  obtain rfl := e0.1
  have c4 : Steps p.tables e below (s₁.setTop (entryFrame m #[.ref a, .ref b] 2)) (T3.setTop (mkF m 9 #[.val (.ref a), .val (.ref b)] [])) := g3
  exact ⟨T3, none, _, _, _, X3, by simp, rfl, by omega, (fun _ => rfl), e0, fun fs hl => c4.trans (X3.returnOut hexec hret (hb hbytes d9) hl)⟩
theorem pays {l : Launch} {R : Room} {p : Program} {e : Env} {below : List Frame} {s : State} {sargs : Array Value} {len W : Nat} (a : Addr) (D : Cell) (fV fC : Field) (b : Addr) (A : Cell) (z : Int32) (htab : tab.before sargs s = true) (hfr : 4 ≤ R.frames) (hlo : W + 65 ≤ R.locals) :
    Back l R p e below s sargs yN len W (fun A₁ a₁ => A₁.cells + 1 ≤ R.cells ∧ A₁.slots + A.slots.size ≤ R.slots ∧ P a D fV fC b A z a₁ A₁.U) (fun A₁ _ v₁ B₁ => E a D fV fC A v₁ A₁.U B₁.U ∧ B₁.locs = A₁.locs ++ [⟨a, fC.slot⟩, ⟨a, fV.slot⟩] ∧ B₁.cells = A₁.cells + 1 ∧ B₁.slots = A₁.slots + A.slots.size) :=
  (law l a D fV fC b A z).pays htab hfr (by omega)
end New1
/-- the byte, read back as charAt reads it, is the char -/
theorem lo8_mask {x : Int32} (h0 : ¬ x < 0) (h1 : ¬ 255 < x) : lo8 x &&& 255 = x := by
  have t : ∀ k : Fin 256, lo8 (Int32.ofNat k.val) &&& 255 = Int32.ofNat k.val := by decide +kernel
  rw [Int32.lt_iff_toInt_lt] at h0 h1
  have e0 : (0 : Int32).toInt = 0 := rfl
  have e1 : (255 : Int32).toInt = 255 := rfl
  obtain ⟨k, hk⟩ : ∃ k : Nat, x.toInt = k := ⟨x.toInt.toNat, by omega⟩
  have hx : x = Int32.ofNat k := Int32.toInt_inj.mp (by rw [hk, Int32.toInt_ofNat_small (by omega)])
  rw [hx]
  exact t ⟨k, by omega⟩
end StrChars
namespace StrChars.Road
open Jvm Sem ClassFile Op Lib Jvm.Stand Jvm.Free Jvm.Free.XT
open Jvm.Lib.Cold (StaticIs)
abbrev ST : String := "java/lang/String"
/-- every table word that New1's law asks, flat -/
abbrev words : List Jvm.Cond := [.code New1.yN New1.yB 2 none, .initialized ST, .methodLink ST 27 New4.yN, .instanceMethod New4.yN,
  .code New4.yN New4.yB 6 none, .fieldLink ST 38 ST "COMPACT_STRINGS" "Z", .laysFinal ST ST "value" "[B", .fieldLink ST 9 ST "value" "[B", .laysFinal ST ST "coder" "B", .fieldLink ST 15 ST "coder" "B",
  .methodLink ST 1 Lib.objectInit, .instanceMethod Lib.objectInit, .code Lib.objectInit ⟨#[0xb1]⟩ 1 none, .methodLink ST 177 Cmp3.yN, .static Cmp3.yN, .methodLink ST 47 CodL.yN, .static CodL.yN,
  .code Cmp3.yN Cmp3.yB 6 (some (.array .byte)), .initialized U16, .arrayClass .byte, .methodLink U16 115 Cmp5.yN, .static Cmp5.yN, .code Cmp5.yN Cmp5.yB 7 (some .int), .code CodL.yN CodL.yB 2 (some .byte)]
theorem tab_of {a : Array Value} {s : State} (h : ∀ w ∈ words, w.before a s = true) : New1.tab.before a s = true := by
  have h5 : Cmp5.tab.before a s = true := unparts (wk h (.code Cmp5.yN Cmp5.yB 7 (some .int))) (wks h (.initialized Cmp5.yN.cls :: Cmp5.site))
  have hc : CodL.tab.before a s = true := unparts (wk h (.code CodL.yN CodL.yB 2 (some .byte))) (wks h (.initialized CodL.yN.cls :: CodL.site))
  have q5 : ∀ w ∈ Cmp5.tab :: words, w.before a s = true := fun w hw => (List.mem_cons.mp hw).elim (fun e => e ▸ h5) (h w)
  have h3 : Cmp3.tab.before a s = true := unparts (wk q5 (.code Cmp3.yN Cmp3.yB 6 (some (.array .byte)))) (wks q5 (.initialized Cmp3.yN.cls :: Cmp3.site))
  have q3 : ∀ w ∈ Cmp3.tab :: CodL.tab :: words, w.before a s = true := fun w hw => (List.mem_cons.mp hw).elim (fun e => e ▸ h3) fun hw => (List.mem_cons.mp hw).elim (fun e => e ▸ hc) (h w)
  have h4 : New4.tab.before a s = true := unparts (wk q3 (.code New4.yN New4.yB 6 none)) (wks q3 (.initialized New4.yN.cls :: New4.site))
  have q4 : ∀ w ∈ New4.tab :: words, w.before a s = true := fun w hw => (List.mem_cons.mp hw).elim (fun e => e ▸ h4) (h w)
  exact unparts (wk q4 (.code New1.yN New1.yB 2 none)) (wks q4 (.initialized New1.yN.cls :: New1.site))
/-- the words ride from the start Z to the walk's own state -/
theorem moved {Z s : State} {a0 args : Array Value} (hZ : Z.Warmed39 s.vm) (hw : ∀ d ∈ words, d.before a0 Z = true) : ∀ d ∈ words, d.before args s = true := fun d hd => by
  have q := hw d hd
  have t : ∀ d ∈ words, d = .arrayClass .byte ∨ (d.onTables && d.keepsFace) = true := by decide +kernel
  rcases t d hd with rfl | t
  · exact RoadKit.mvA hZ q
  · exact RoadKit.mv hZ q t
/-- WHAT COMES BACK, over the tables of the start Z: h the heap at the call, h' behind it -/
def Q (Z : State) (x : Addr) (A : Cell) (h : Heap) (v : Option Value) (h' : Heap) (L : List Loc) : Prop := v = none ∧ (∀ y ∈ L, y.base = x) ∧ RoadKit.Keep h h' [x] ∧ h'.size = h.size + 1 ∧ RoadKit.Exa Z h' x ST ∧ RoadKit.Fld Z h' x ST "value" "[B" (.ref h.size) ∧ RoadKit.Fld Z h' x ST "coder" "B" (.int 0) ∧
  (∃ V : Cell, RoadKit.Arr Z h' h.size V .byte ∧ V.vm = .none ∧ Z.vm.findClass "[B" = some V.cls ∧ V.slots.size = A.slots.size ∧ ∀ j, j < A.slots.size → V.slots[j]? = some (.int (lo8 (cv A j)))) ∧
  ∀ (O n d : String) (w : Value), RoadKit.Fld Z h x O n d w → RoadKit.slotOf Z O n d ≠ RoadKit.slotOf Z ST "value" "[B" → RoadKit.slotOf Z O n d ≠ RoadKit.slotOf Z ST "coder" "B" → RoadKit.Fld Z h' x O n d w
/-- **new String(chars) AT A CALL, IN THE ROAD'S FORM**: for specialBack behind newO: x the fresh String, b the char[] with the cell A -/
theorem back {p : Program} {l : Launch} {e : Env} {R : Room} {s : State} {args : Array Value} {below : List Frame} {len W : Nat} {Z : State} {a0 : Array Value} {h : Heap} (hZ : Z.Warmed39 s.vm) (hw : ∀ d ∈ words, d.before a0 Z = true) {kI : Nat} (wi : (Jvm.Cond.instantiable ST kI).before a0 Z = true)
    {x b : Addr} {A : Cell} {z : Int32} {v0 c0 : Value} (E : RoadKit.Exa Z h x ST) (V : RoadKit.Fld Z h x ST "value" "[B" v0) (C : RoadKit.Fld Z h x ST "coder" "B" c0) (K : RoadKit.Arr Z h b A .char) (hty : Typed .char A) (S : RoadKit.Sta Z h ST "COMPACT_STRINGS" "Z" (.int z)) (hz : ¬ z = 0)
    (l0 : 0 < A.slots.size) (l2 : A.slots.size ≤ 536870912) (hp : ∀ i, i < A.slots.size → ¬ 255 < cv A i) (hfr : 4 ≤ R.frames) (hlo : W + 65 ≤ R.locals) :
    Back l R p e below s args New1.yN len W (fun P a => a = #[.ref x, .ref b] ∧ P.U.heap = h ∧ P.cells + 1 ≤ R.cells ∧ P.slots + A.slots.size ≤ R.slots)
      (fun P _ v B => ∃ L, Q Z x A h v B.U.heap L ∧ B.locs = P.locs ++ L ∧ B.cells = P.cells + 1 ∧ B.slots = P.slots + A.slots.size) := by
  intro m meth c P g ig mk a X hg hsize hdg hW hn hp'
  obtain ⟨rfl, rfl, r1, r2⟩ := hp'
  have al : Z.vm.Alike P.U.vm := hZ.alike.trans X.warmed.alike
  obtain ⟨D, cfV, kV, iV, fV, hD, gV, stV, knV, obV, asV, slV⟩ := id V
  obtain ⟨D', cfC, kC, iC, fC, hD', gC, stC, -, -, asC, slC⟩ := id C
  cases hD.symm.trans hD'
  obtain ⟨D2, kD, e1, e2, e3, e4, e5⟩ := id E
  cases hD.symm.trans e1
  obtain ⟨c2, k2, i1, i2, i3, -⟩ := Cond.instantiable_spec wi
  cases e2.symm.trans i1
  cases e3.symm.trans i2
  obtain ⟨kU, u1, u2⟩ := al.2.2 _ _ e3
  have hB : Blank ST x D P.U := ⟨hD, ⟨knV, fun q hq => by rw [hq] at obV; cases obV⟩, by rw [al.findClass]; exact e2, kU, u1, by rw [u2]; exact i3, by rw [u2]; exact e5 i3⟩
  have F1 : Found ST "value" "[B" fV P.U := ⟨SBG.found_only al ⟨cfV, kV, iV, gV⟩, stV⟩
  have F2 : Found ST "coder" "B" fC P.U := ⟨SBG.found_only al ⟨cfC, kC, iC, gC⟩, stC⟩
  have hA : Ch b A P.U := ⟨⟨K.1, State.isArrayOf_alike al K.2.1, K.2.2, by omega⟩, hty⟩
  have hS : StaticIs P.U ST "COMPACT_STRINGS" "Z" (.int z) := by
    obtain ⟨cfS, iS, kS, fS, st, cS, t1, t2, t3, t4, t5, t6, t7⟩ := S
    exact StaticIs.there (s := { Z with heap := P.U.heap }) ⟨cfS, iS, kS, fS, st, cS, t1, t2, t3, t4, t5, (fun q => by rw [q] at t6; cases t6), t7⟩ al rfl
  obtain ⟨v, B, X', ⟨⟨hv, E', V', q1, q2, q3, q4, q5, q6, q7, q8, q9, q10, q11⟩, hl, hc, hs⟩, st⟩ := New1.pays x D fV fC b A z (tab_of (moved hZ hw)) hfr hlo m meth c P g ig mk _ X hg hsize hdg hW hn ⟨r1, r2, rfl, hB, F1, F2, hA, hS, hz, l0, l2, hp⟩
  have al' : Z.vm.Alike B.U.vm := hZ.alike.trans X'.warmed.alike
  have hsz : E'.slots.size = D.slots.size := by
    obtain ⟨-, -, -, kB, w1, w2, w3⟩ := q1
    obtain ⟨kB', y1, y2⟩ := al'.2.2 _ _ e3
    rw [q2.2.1] at w1
    cases w1.symm.trans y1
    rw [w3, e5 i3, y2]
  refine ⟨v, B, X', ⟨_, ⟨hv, ?_, ⟨by omega, fun y cy hy hn' => q10 y cy (by simpa using hn') hy, fun y cy hy => ?_⟩, q11, ⟨E', _, q1.1, by rw [q2.2.1]; exact e2, by rw [q2.2.1]; exact e3, by rw [q2.1]; exact obV, fun _ => by rw [hsz]; exact e5 i3⟩,
    ⟨E', cfV, kV, iV, fV, q1.1, gV, stV, by rw [q2.1]; exact knV, by rw [q2.1]; exact obV, by rw [q2.2.1]; exact asV, q3⟩, ⟨E', cfC, kC, iC, fC, q1.1, gC, stC, by rw [q2.1]; exact knV, by rw [q2.1]; exact obV, by rw [q2.2.1]; exact asC, q4⟩,
    ⟨V', ⟨q5.1, State.isArrayOf_alike al'.symm q5.2.1, q5.2.2.1⟩, q6, by rw [← al'.findClass]; exact q7, q8, fun j hj => by have := q9 j hj; rwa [Nat.zero_add] at this⟩, fun O n d w F n1 n2 => ?_⟩, hl, hc, hs⟩, st⟩
  · intro y hy
    simp only [List.mem_cons, List.not_mem_nil, or_false] at hy
    rcases hy with rfl | rfl <;> rfl
  · by_cases q : y = x
    · subst q
      cases hD.symm.trans hy
      exact ⟨E', q1.1, q2.2.1, q2.1, hsz⟩
    · exact ⟨cy, q10 y cy q hy, rfl, rfl, rfl⟩
  · obtain ⟨D3, cf, k, i, f, g1, g2, g3, g4, g5, g6, g7⟩ := F
    cases hD.symm.trans g1
    simp only [RoadKit.slotOf, g2, gV, gC, Option.map_some, Option.getD_some] at n1 n2
    exact ⟨E', cf, k, i, f, q1.1, g2, g3, by rw [q2.1]; exact g4, by rw [q2.1]; exact g5, by rw [q2.2.1]; exact g6, by rw [q2.2.2 f.slot (by simp [n1, n2])]; exact g7⟩
end StrChars.Road
namespace StrChars.Road
open Jvm Sem ClassFile Op Lib Jvm.Stand Jvm.Free Jvm.Free.XT
/-- WHAT COMES BACK, the byte[] as a list of values -/
def QA (Z : State) (x : Addr) (zn : Int32) (cs : List Int32) (h : Heap) (v : Option Value) (h' : Heap) (L : List Loc) : Prop := v = none ∧ (∀ y ∈ L, y.base = x) ∧ RoadKit.Keep h h' [x] ∧ h'.size = h.size + 1 ∧ RoadKit.Exa Z h' x ST ∧ RoadKit.Fld Z h' x ST "value" "[B" (.ref h.size) ∧ RoadKit.Fld Z h' x ST "coder" "B" (.int 0) ∧
  (∃ kb, Z.vm.findClass "[B" = some kb ∧ RoadKit.Arv Z h' h.size kb .byte zn (cs.map fun c => .int (lo8 c)) (.int 0)) ∧
  ∀ (O n d : String) (w : Value), RoadKit.Fld Z h x O n d w → RoadKit.slotOf Z O n d ≠ RoadKit.slotOf Z ST "value" "[B" → RoadKit.slotOf Z O n d ≠ RoadKit.slotOf Z ST "coder" "B" → RoadKit.Fld Z h' x O n d w
/-- **new String(chars) AT A CALL, THE ARRAYS AS LISTS**: the char[] at b holds cs, not empty, no char above 255 -/
theorem backArv {p : Program} {l : Launch} {e : Env} {R : Room} {s : State} {args : Array Value} {below : List Frame} {len W : Nat} {Z : State} {a0 : Array Value} {h : Heap} (hZ : Z.Warmed39 s.vm) (hw : ∀ d ∈ words, d.before a0 Z = true) {kI : Nat} (wi : (Jvm.Cond.instantiable ST kI).before a0 Z = true)
    {x b : Addr} {k : ClassId} {zn z : Int32} {cs : List Int32} {dv v0 c0 : Value} (E : RoadKit.Exa Z h x ST) (V : RoadKit.Fld Z h x ST "value" "[B" v0) (C : RoadKit.Fld Z h x ST "coder" "B" c0) (K : RoadKit.Arv Z h b k .char zn (cs.map Value.int) dv) (S : RoadKit.Sta Z h ST "COMPACT_STRINGS" "Z" (.int z)) (hz : ¬ z = 0)
    (hlen : zn.toNatClampNeg = cs.length) (h0 : 0 < cs.length) (hbig : cs.length ≤ 536870912) (hall : ∀ c ∈ cs, ¬ 255 < c) (hfr : 4 ≤ R.frames) (hlo : W + 65 ≤ R.locals) :
    Back l R p e below s args New1.yN len W (fun P a => a = #[.ref x, .ref b] ∧ P.U.heap = h ∧ P.cells + 1 ≤ R.cells ∧ P.slots + cs.length ≤ R.slots)
      (fun P _ v B => ∃ L, QA Z x zn cs h v B.U.heap L ∧ B.locs = P.locs ++ L ∧ B.cells = P.cells + 1 ∧ B.slots = P.slots + cs.length) := by
  obtain ⟨A, K1, K2, K3, K4, K5, K6⟩ := K
  have e : A.slots.size = cs.length := K3.trans hlen
  have hat : ∀ (i : Nat) (hi : i < cs.length), A.slots[i]? = some (.int cs[i]) := fun i hi => by rw [K5 i (by omega)]; simp [List.getD_eq_getElem?_getD, hi]
  have hcv : ∀ (i : Nat) (hi : i < cs.length), cv A i = cs[i] := fun i hi => by unfold cv; rw [hat i hi]
  have hty : Typed .char A := fun i v hv => by
    have hi : i < A.slots.size := (Array.getElem?_eq_some_iff.mp hv).1
    have q := K5 i hi
    rw [hv] at q
    rw [Option.some.inj q]
    exact K6 i hi
  refine Back.mono (back hZ hw wi E V C K1 hty S hz (by omega) (by omega) (fun i hi => by rw [hcv i (by omega)]; exact hall _ (List.getElem_mem _)) hfr hlo) (fun P a hp => ⟨hp.1, hp.2.1, hp.2.2.1, by rw [e]; exact hp.2.2.2⟩) (fun P a v B hp hq => ?_)
  obtain ⟨L, ⟨q1, q2, q3, q4, q5, q6, q7, ⟨V', v1, v2, v3, v4, v5⟩, q9⟩, hl, hc, hs⟩ := hq
  refine ⟨L, ⟨q1, q2, q3, q4, q5, q6, q7, ⟨V'.cls, v3, V', v1, rfl, by rw [v4, e, hlen], K4, fun i hi => ?_, fun i hi => ?_⟩, q9⟩, hl, hc, by rw [hs, e]⟩
  · have hi' : i < cs.length := by omega
    rw [v5 i (by omega), hcv i hi']; simp [List.getD_eq_getElem?_getD, hi']
  · have hi' : i < cs.length := by omega
    simp only [List.getD_eq_getElem?_getD, List.getElem?_map, List.getElem?_eq_getElem hi', Option.map_some, Option.getD_some]
    exact fits_lo8 _
end StrChars.Road
namespace StrChars.Road
open Jvm Sem ClassFile Op Lib Jvm.Stand Jvm.Free Jvm.Free.XT
/-- WHAT COMES BACK, in the writer's own shape -/
def QV (Z : State) (x : Addr) (N : Int32) (bs : List Int32) (h : Heap) (n0 : Nat) (v : Option Value) (h' : Heap) (L : List Loc) : Prop := v = none ∧ RoadKit.Fr n0 L ∧ RoadKit.Keep h h' [x] ∧ RoadKit.Exa Z h' x ST ∧ RoadKit.Fld Z h' x ST "coder" "B" (.int 0) ∧
  ∃ (t : Addr) (kb : ClassId), n0 ≤ t ∧ h.size ≤ t ∧ ¬ t = x ∧ RoadKit.Fld Z h' x ST "value" "[B" (.ref t) ∧ RoadKit.Arv Z h' t kb .byte N (bs.map Value.int) (.int 0)
/-- **new String(chars) AT A CALL, FOR THE WRITER**: a char[] of n known ints, each 0 to 255 -/
theorem backV {p : Program} {l : Launch} {e : Env} {R : Room} {s : State} {args : Array Value} {below : List Frame} {len W : Nat} {Z : State} {a0 : Array Value} {h : Heap} (hZ : Z.Warmed39 s.vm) (hw : ∀ d ∈ words, d.before a0 Z = true) {kI : Nat} (wi : (Jvm.Cond.instantiable ST kI).before a0 Z = true)
    {x b : Addr} {kC : ClassId} {cs bs : List Int32} {d v0 c0 : Value} {z N : Int32} {n n0 : Nat} (hx0 : n0 ≤ x) (hh0 : n0 ≤ h.size) (E : RoadKit.Exa Z h x ST) (V : RoadKit.Fld Z h x ST "value" "[B" v0) (C : RoadKit.Fld Z h x ST "coder" "B" c0) (K : RoadKit.Arv Z h b kC .char N (cs.map Value.int) d) (S : RoadKit.Sta Z h ST "COMPACT_STRINGS" "Z" (.int z)) (hz : ¬ z = 0)
    (hn : cs.length = n) (hN : N = Int32.ofNat n) (l0 : 0 < n) (l2 : n ≤ 4000) (hp : ∀ c ∈ cs, ¬ c < 0 ∧ ¬ (255 : Int32) < c) (hb : bs = cs.map (fun c => c.toInt8.toInt32)) (hfr : 4 ≤ R.frames) (hlo : W + 65 ≤ R.locals) :
    Back l R p e below s args (⟨"java/lang/String", "<init>", "([C)V"⟩ : MethodName) len W (fun P a => a = #[.ref x, .ref b] ∧ P.U.heap = h ∧ P.cells + 1 ≤ R.cells ∧ P.slots + n ≤ R.slots)
      (fun P _ v B => ∃ L, QV Z x N bs h n0 v B.U.heap L ∧ B.locs = P.locs ++ L ∧ B.cells = P.cells + 1 ∧ B.slots = P.slots + n) := by
  subst hn hN hb
  refine Back.mono (backArv hZ hw wi E V C K S hz (n32 (by omega)) l0 (by omega) (fun c hc => (hp c hc).2) hfr hlo) (fun P a hp => hp) (fun P a v B hp hq => ?_)
  obtain ⟨L, ⟨q1, q2, q3, q4, q5, q6, q7, ⟨kb, v1, v2⟩, q9⟩, hl, hc, hs⟩ := hq
  exact ⟨L, ⟨q1, fun y hy => by rw [q2 y hy]; exact hx0, q3, q5, q7, h.size, kb, hh0, Nat.le_refl _, Nat.ne_of_gt E.lt, q6, by rw [List.map_map]; exact v2⟩, hl, hc, hs⟩
end StrChars.Road
namespace StrChars
open Jvm Sem ClassFile Op Lib Jvm.Stand Jvm.Free.XT Jvm.Free.ALB Jvm.Free.JM Jvm.Free
open Jvm.Lib.Cold (StaticIs)
def hi8 (x : Int32) : Int32 := lo8 (x >>> ((8 : Int32) &&& 31))
/-- what StringUTF16.getChar makes of two bytes -/
def pairCh (u v : Int32) : Int32 := (((u &&& 255) <<< ((0 : Int32) &&& 31)) ||| ((v &&& 255) <<< ((8 : Int32) &&& 31))).toUInt32.toUInt16.toUInt32.toInt32
theorem lo8_and (x : Int32) : (lo8 x &&& 255).toBitVec.toNat = x.toBitVec.toNat % 256 := by
  have h : (lo8 x).toBitVec = (x.toBitVec.signExtend 8).signExtend 32 := by rw [lo8, Int8.toBitVec_toInt32, Int32.toBitVec_toInt8]
  rw [Int32.toBitVec_and, BitVec.toNat_and, h]
  have e : ((x.toBitVec.signExtend 8).signExtend 32).toNat % 256 = x.toBitVec.toNat % 256 := by
    rw [BitVec.toNat_signExtend]
    have hlt := x.toBitVec.isLt
    simp only [BitVec.toNat_setWidth, BitVec.toNat_signExtend]
    split <;> split <;> omega
  rw [← e]
  exact Nat.and_two_pow_sub_one_eq_mod _ 8
theorem pair_says {c : Int32} (h0 : ¬ c < 0) (h1 : ¬ 65535 < c) : pairCh (lo8 c) (hi8 c) = c := by
  rw [Int32.lt_iff_toInt_lt] at h0 h1
  have e0 : (0 : Int32).toInt = 0 := rfl
  have e1 : (65535 : Int32).toInt = 65535 := rfl
  have hc : c.toInt = c.toBitVec.toNat := by
    have := c.toBitVec.isLt
    have e : c.toInt = c.toBitVec.toInt := rfl
    rw [e] at h0 h1
    rw [e]
    rw [BitVec.toInt_eq_toNat_cond] at h0 h1 ⊢
    split at h0 <;> split <;> omega
  have hn : c.toBitVec.toNat < 65536 := by omega
  have a1 := lo8_and c
  have a2 : (hi8 c &&& 255).toBitVec.toNat = c.toBitVec.toNat / 256 := by
    rw [hi8, lo8_and]
    have e : ((8 : Int32) &&& 31) = 8 := by decide
    rw [e, Int32.toBitVec_shiftRight]
    have e2 : ((8 : Int32).toBitVec.smod 32) = 8#32 := by decide
    rw [e2, BitVec.sshiftRight_eq', BitVec.toNat_sshiftRight_of_msb_false (by rw [BitVec.msb_eq_false_iff_two_mul_lt]; omega)]
    show c.toBitVec.toNat >>> 8 % 256 = _
    rw [Nat.shiftRight_eq_div_pow]
    omega
  unfold pairCh
  apply Int32.toBitVec_inj.mp
  apply BitVec.eq_of_toNat_eq
  have f0 : ((0 : Int32) &&& 31) = 0 := by decide
  have f8 : ((8 : Int32) &&& 31) = 8 := by decide
  rw [f0, f8]
  have g : (((lo8 c &&& 255) <<< (0 : Int32)) ||| ((hi8 c &&& 255) <<< (8 : Int32))).toBitVec.toNat = c.toBitVec.toNat := by
    rw [Int32.toBitVec_or, Int32.toBitVec_shiftLeft, Int32.toBitVec_shiftLeft]
    have s0 : ((0 : Int32).toBitVec.smod 32) = 0#32 := by decide
    have s8 : ((8 : Int32).toBitVec.smod 32) = 8#32 := by decide
    rw [s0, s8, BitVec.toNat_or]
    simp only [BitVec.shiftLeft_eq', BitVec.toNat_shiftLeft, a1, a2]
    show (c.toBitVec.toNat % 256) <<< 0 % 2 ^ 32 ||| (c.toBitVec.toNat / 256) <<< 8 % 2 ^ 32 = _
    rw [Nat.shiftLeft_zero, Nat.mod_eq_of_lt (show c.toBitVec.toNat % 256 < 2 ^ 32 by omega), Nat.mod_eq_of_lt (show (c.toBitVec.toNat / 256) <<< 8 < 2 ^ 32 by rw [Nat.shiftLeft_eq]; omega), Nat.or_comm, ← Nat.shiftLeft_add_eq_or_of_lt (by omega), Nat.shiftLeft_eq]
    omega
  show BitVec.toNat (((((lo8 c &&& 255) <<< (0 : Int32)) ||| ((hi8 c &&& 255) <<< (8 : Int32))).toBitVec.setWidth 16).setWidth 32) = _
  rw [BitVec.toNat_setWidth, BitVec.toNat_setWidth, g]
  omega
end StrChars
namespace StrChars
open Jvm Sem ClassFile Op Lib Jvm.Stand Jvm.Free.XT Jvm.Free.ALB Jvm.Free.JM Jvm.Free
open Jvm.Lib.Cold (StaticIs)
/-- the array's cell V codes the n chars f 0 .. f (n - 1) by the coder cd, as the JDK does: coder 1 just where some char is above 255 -/
def Cod (cd : Int32) (n : Nat) (f : Nat → Int32) (V : Cell) : Prop := (cd = 0 ∧ V.slots.size = n ∧ ∀ j, j < n → V.slots[j]? = some (.int (lo8 (f j))) ∧ ¬ 255 < f j) ∨ (cd = 1 ∧ V.slots.size = 2 * n ∧ (∀ j, j < n → V.slots[2 * j]? = some (.int (lo8 (f j))) ∧ V.slots[2 * j + 1]? = some (.int (hi8 (f j)))) ∧ ∃ j, j < n ∧ 255 < f j)
/-- **x is a String of the n chars f 0 .. f (n - 1)**, Latin-1 or UTF-16; its array at t has the cell V -/
def Txt (x t : Addr) (V : Cell) (cd : Int32) (n : Nat) (f : Nat → Int32) (U : State) : Prop := Exact "java/lang/String" x U ∧ Has x "java/lang/String" "value" "[B" (.ref t) U ∧ Has x "java/lang/String" "coder" "B" (.int cd) U ∧ XT.Arr .byte t V U ∧ Cod cd n f V ∧ ∀ j, j < n → ¬ f j < 0 ∧ ¬ 65535 < f j
theorem Txt.mv {x t : Addr} {V : Cell} {cd : Int32} {n : Nat} {f : Nat → Int32} {U U' : State} (h : Txt x t V cd n f U) (hal : U.vm.Alike U'.vm) (hh : U'.heap = U.heap) : Txt x t V cd n f U' := ⟨h.1.mv hal hh, h.2.1.mv hal hh, h.2.2.1.mv hal hh, h.2.2.2.1.mv hal hh, h.2.2.2.2⟩
end StrChars
namespace StrChars.Road
open Jvm Sem ClassFile Op Lib Jvm.Stand Jvm.Free Jvm.Free.XT
open Jvm.Lib.Cold (StaticIs)
theorem consq {a : Array Value} {s : State} {c : Jvm.Cond} {L : List Jvm.Cond} (h0 : c.before a s = true) (h : ∀ w ∈ L, w.before a s = true) : ∀ w ∈ c :: L, w.before a s = true := fun w hw => (List.mem_cons.mp hw).elim (fun e => e ▸ h0) (h w)
/-- the bytes of the chars cs, low before high -/
def wideBytes : List Int32 → List Value
  | [] => []
  | c :: cs => .int (lo8 c) :: .int (hi8 c) :: wideBytes cs
theorem wide_lo (d : Value) : ∀ (cs : List Int32) (j : Nat), j < cs.length → (wideBytes cs).getD (2 * j) d = .int (lo8 (cs.getD j 0))
  | [], j, h => absurd h (Nat.not_lt_zero j)
  | c :: cs, 0, _ => rfl
  | c :: cs, j + 1, h => by
    have q := wide_lo d cs j (by simpa using h)
    rw [show 2 * (j + 1) = 2 * j + 1 + 1 from by omega]
    simpa [wideBytes] using q
theorem wide_hi (d : Value) : ∀ (cs : List Int32) (j : Nat), j < cs.length → (wideBytes cs).getD (2 * j + 1) d = .int (hi8 (cs.getD j 0))
  | [], j, h => absurd h (Nat.not_lt_zero j)
  | c :: cs, 0, _ => rfl
  | c :: cs, j + 1, h => by
    have q := wide_hi d cs j (by simpa using h)
    rw [show 2 * (j + 1) + 1 = 2 * j + 1 + 1 + 1 from by omega]
    simpa [wideBytes] using q
theorem low_at (d : Value) (cs : List Int32) (j : Nat) (h : j < cs.length) : (cs.map fun c => Value.int (lo8 c)).getD j d = .int (lo8 (cs.getD j 0)) := by
  simp [List.getD_eq_getElem?_getD, h]
/-- an array of N2 bytes vs codes the chars cs by the coder cd -/
def CodA (cs : List Int32) (cd N2 : Int32) (vs : List Value) : Prop := (cd = 0 ∧ N2 = Int32.ofNat cs.length ∧ vs = (cs.map fun c => Value.int (lo8 c)) ∧ ∀ c ∈ cs, ¬ 255 < c) ∨ (cd = 1 ∧ N2 = Int32.ofNat (2 * cs.length) ∧ vs = wideBytes cs ∧ ∃ c ∈ cs, 255 < c)
theorem CodA.cod {cs : List Int32} {cd N2 : Int32} {vs : List Value} {V : Cell} (h : CodA cs cd N2 vs) (hn : 2 * cs.length < 2 ^ 31) (hs : V.slots.size = N2.toNatClampNeg) (hv : RoadKit.Has V vs (.int 0)) : Cod cd cs.length (fun j => cs.getD j 0) V := by
  rcases h with ⟨rfl, rfl, rfl, h⟩ | ⟨rfl, rfl, rfl, c, hc, hw⟩
  · rw [n32 (by omega)] at hs
    exact Or.inl ⟨rfl, hs, fun j hj => ⟨by rw [hv j (by omega), low_at _ _ _ hj], by
      have e : cs.getD j 0 = cs[j] := by simp [List.getD_eq_getElem?_getD, hj]
      show ¬ 255 < cs.getD j 0
      rw [e]; exact h _ (List.getElem_mem _)⟩⟩
  · rw [n32 (by omega)] at hs
    obtain ⟨j, hj, rfl⟩ := List.getElem_of_mem hc
    exact Or.inr ⟨rfl, hs, fun j hj => ⟨by rw [hv _ (by omega), wide_lo _ _ _ hj], by rw [hv _ (by omega), wide_hi _ _ _ hj]⟩, j, hj, by
      have e : cs.getD j 0 = cs[j] := by simp [List.getD_eq_getElem?_getD, hj]
      show 255 < cs.getD j 0
      rw [e]; exact hw⟩
/-- an object of exactly java/lang/String, its two fields found: as the laws ask it -/
theorem strObj {Z U : State} {a0 : Array Value} {kI : Nat} (wi : (Jvm.Cond.instantiable ST kI).before a0 Z = true) (al : Z.vm.Alike U.vm) {x : Addr} {v0 c0 : Value} (E : RoadKit.Exa Z U.heap x ST) (V : RoadKit.Fld Z U.heap x ST "value" "[B" v0) (C : RoadKit.Fld Z U.heap x ST "coder" "B" c0) :
    ∃ (D : Cell) (fV fC : Field), Blank ST x D U ∧ Found ST "value" "[B" fV U ∧ Found ST "coder" "B" fC U ∧ D.slots[fV.slot]? = some v0 ∧ D.slots[fC.slot]? = some c0 ∧ RoadKit.slotOf Z ST "value" "[B" = fV.slot ∧ RoadKit.slotOf Z ST "coder" "B" = fC.slot := by
  obtain ⟨D, cfV, kV, iV, fV, hD, gV, stV, knV, obV, asV, slV⟩ := V
  obtain ⟨D', cfC, kC, iC, fC, hD', gC, stC, -, -, asC, slC⟩ := C
  cases hD.symm.trans hD'
  obtain ⟨D2, kD, e1, e2, e3, e4, e5⟩ := E
  cases hD.symm.trans e1
  obtain ⟨c2, k2, i1, i2, i3, -⟩ := Cond.instantiable_spec wi
  cases e2.symm.trans i1
  cases e3.symm.trans i2
  obtain ⟨kU, u1, u2⟩ := al.2.2 _ _ e3
  exact ⟨D, fV, fC, ⟨hD, ⟨knV, fun q hq => by rw [hq] at obV; cases obV⟩, by rw [al.findClass]; exact e2, kU, u1, by rw [u2]; exact i3, by rw [u2]; exact e5 i3⟩, ⟨SBG.found_only al ⟨cfV, kV, iV, gV⟩, stV⟩, ⟨SBG.found_only al ⟨cfC, kC, iC, gC⟩, stC⟩, slV, slC, by simp [RoadKit.slotOf, gV], by simp [RoadKit.slotOf, gC]⟩
theorem sta_is {Z U : State} (al : Z.vm.Alike U.vm) {C n d : String} {v : Value} (S : RoadKit.Sta Z U.heap C n d v) : StaticIs U C n d v := by
  obtain ⟨cfS, iS, kS, fS, st, cS, t1, t2, t3, t4, t5, t6, t7⟩ := S
  exact StaticIs.there (s := { Z with heap := U.heap }) ⟨cfS, iS, kS, fS, st, cS, t1, t2, t3, t4, t5, (fun q => by rw [q] at t6; cases t6), t7⟩ al rfl
end StrChars.Road
namespace StrChars
open Jvm Sem ClassFile Op Lib Jvm.Stand Jvm.Free.XT Jvm.Free.ALB Jvm.Free.JM Jvm.Free
open Jvm.Lib.Cold (StaticIs)
/-- what place i of a byte[]'s cell holds -/
def yv (A : Cell) (i : Nat) : Int32 := match A.slots[i]? with | some (.int x) => x | _ => 0
theorem yv_get {a : Addr} {A : Cell} {U : State} (h : XT.Arr .byte a A U) (ht : Typed .byte A) {i : Nat} (hi : i < A.slots.size) : A.slots[i]? = some (.int (yv A i)) := by
  have e := Array.getElem?_eq_getElem hi
  have f := ht i _ e
  unfold yv; rw [e]
  generalize A.slots[i] = v at f
  cases v <;> simp [fits] at f ⊢
/-- the two arrays are equal, place for place -/
def EqC (A B : Cell) : Prop := A.slots.size = B.slots.size ∧ ∀ i, i < A.slots.size → yv A i = yv B i
/-- a boolean that says whether p -/
def Says01 (q : Prop) (r : Option Value) (s u : State) : Prop := ∃ v : Int32, r = some (.int v) ∧ u.heap = s.heap ∧ ((v = 1 ∧ q) ∨ (v = 0 ∧ ¬ q))
theorem Says01.mv {q : Prop} : ∀ r (U U' V V' : State), U'.heap = U.heap → V.vm.Alike V'.vm → V'.heap = V.heap → Says01 q r U V → Says01 q r U' V' :=
  fun r U U' V V' h1 _ h2 ⟨v, a, b, c⟩ => ⟨v, a, by rw [h1, h2]; exact b, c⟩
namespace LEq
def yN : MethodName := ⟨"java/lang/StringLatin1", "equals", "([B[B)Z"⟩
abbrev yB : ByteArray := jdk_43_method_13_code
theorem d0 : decode yB 0 = .ok (.aload_n 0, 1) := by decide +kernel
theorem d1 : decode yB 1 = .ok (.arraylength, 1) := by decide +kernel
theorem d2 : decode yB 2 = .ok (.aload_n 1, 1) := by decide +kernel
theorem d3 : decode yB 3 = .ok (.arraylength, 1) := by decide +kernel
theorem d4 : decode yB 4 = .ok (.if_icmp (.ne) 30, 3) := by decide +kernel
theorem d7 : decode yB 7 = .ok (.iconst 0, 1) := by decide +kernel
theorem d8 : decode yB 8 = .ok (.istore_n 2, 1) := by decide +kernel
theorem d9 : decode yB 9 = .ok (.iload_n 2, 1) := by decide +kernel
theorem d10 : decode yB 10 = .ok (.aload_n 0, 1) := by decide +kernel
theorem d11 : decode yB 11 = .ok (.arraylength, 1) := by decide +kernel
theorem d12 : decode yB 12 = .ok (.if_icmp (.ge) 20, 3) := by decide +kernel
theorem d15 : decode yB 15 = .ok (.aload_n 0, 1) := by decide +kernel
theorem d16 : decode yB 16 = .ok (.iload_n 2, 1) := by decide +kernel
theorem d17 : decode yB 17 = .ok (.baload, 1) := by decide +kernel
theorem d18 : decode yB 18 = .ok (.aload_n 1, 1) := by decide +kernel
theorem d19 : decode yB 19 = .ok (.iload_n 2, 1) := by decide +kernel
theorem d20 : decode yB 20 = .ok (.baload, 1) := by decide +kernel
theorem d21 : decode yB 21 = .ok (.if_icmp (.eq) 5, 3) := by decide +kernel
theorem d24 : decode yB 24 = .ok (.iconst 0, 1) := by decide +kernel
theorem d25 : decode yB 25 = .ok (.ireturn, 1) := by decide +kernel
theorem d26 : decode yB 26 = .ok (.iinc 2 1, 3) := by decide +kernel
theorem d29 : decode yB 29 = .ok (.goto (-20), 3) := by decide +kernel
theorem d32 : decode yB 32 = .ok (.iconst 1, 1) := by decide +kernel
theorem d33 : decode yB 33 = .ok (.ireturn, 1) := by decide +kernel
theorem d34 : decode yB 34 = .ok (.iconst 0, 1) := by decide +kernel
theorem d35 : decode yB 35 = .ok (.ireturn, 1) := by decide +kernel
def site : List Cond := []
def tab : Cond := tabOf yN yB 3 (some .boolean) site
def P (a : Addr) (A : Cell) (b : Addr) (B : Cell) (args : Array Value) (s : State) : Prop := args = #[.ref a, .ref b] ∧ XT.Arr .byte a A s ∧ Typed .byte A ∧ XT.Arr .byte b B s ∧ Typed .byte B
/-- whether two byte[] are equal, place for place -/
theorem law (l : Launch) (a : Addr) (A : Cell) (b : Addr) (B : Cell) : Law l yN 2 2 0 0 yB 3 (some .boolean) site (P a A b B) (Says01 (EqC A B)) [] 0 0 := by
  refine Law.of_walk (plainFor_of_name (by decide +kernel)) (by decide +kernel) (by decide +kernel) (by decide) (fun _ _ h => by rw [h.1]; rfl) (fun _ U U' hal hh h => ⟨h.1, h.2.1.mv hal hh, h.2.2.1, h.2.2.2.1.mv hal hh, h.2.2.2.2⟩) (fun r U U' V V' h1 hal h2 h => Says01.mv r U U' V V' h1 hal h2 h) ?_
  intro p e s m args below meth c s₁ X0 hexec hbytes hml hret hlk hnm hown hh0 W hP
  obtain ⟨rfl, hA, tA, hB, tB⟩ := hP
  have a31 := hA.2.2.2
  have b31 := hB.2.2.2
  have hA0 := hA.mv X0.warmed.alike hh0
  have hB0 := hB.mv X0.warmed.alike hh0
  have c1 : Steps p.tables e below (s₁.setTop (entryFrame m #[.ref a, .ref b] 3)) (s₁.setTop (mkF m 0 #[.val (.ref a), .val (.ref b), .unset] [])) := entry rfl
  have c2 : Steps p.tables e below (s₁.setTop (entryFrame m #[.ref a, .ref b] 3)) (s₁.setTop (mkF m 4 #[.val (.ref a), .val (.ref b), .unset] [.int (Int32.ofNat B.slots.size), .int (Int32.ofNat A.slots.size)])) := c1.trans (by
    refine XS.aloadN X0.here hexec rfl (hb hbytes d0) rfl rfl ?_
    refine X0.alen hexec hA0 rfl rfl (hb hbytes d1) ?_
    refine XS.aloadN X0.here hexec rfl (hb hbytes d2) rfl rfl ?_
    refine X0.alen hexec hB0 rfl rfl (hb hbytes d3) ?_
    exact Steps.refl _)
  by_cases hs : A.slots.size = B.slots.size
  · have c3 : Steps p.tables e below (s₁.setTop (entryFrame m #[.ref a, .ref b] 3)) (s₁.setTop (mkF m 9 #[.val (.ref a), .val (.ref b), .val (.int 0)] [])) := c2.trans (by
      refine XS.icmpNo X0.here hexec rfl (hb hbytes d4) rfl (ii_ne_f (by rw [hs])) ?_
      refine iconstV X0.here hexec rfl 0 (hb hbytes d7) (by decide) ?_
      refine XS.istoreN X0.here hexec rfl (hb hbytes d8) rfl rfl ?_
      exact Steps.refl _)
    have loop : ∀ (r i : Nat), i + r = A.slots.size → (∀ j, j < i → yv A j = yv B j) → Steps p.tables e below (s₁.setTop (entryFrame m #[.ref a, .ref b] 3)) (s₁.setTop (mkF m 9 #[.val (.ref a), .val (.ref b), .val (.int (Int32.ofNat i))] [])) → ∃ (pc : Nat) (Ls : Array Slot) (v : Int32), (pc = 25 ∨ pc = 33) ∧ ((v = 1 ∧ EqC A B) ∨ (v = 0 ∧ ¬ EqC A B)) ∧ Steps p.tables e below (s₁.setTop (entryFrame m #[.ref a, .ref b] 3)) (s₁.setTop (mkF m pc Ls [.int v])) := by
      intro r
      induction r with
      | zero =>
        intro i hi he cl
        exact ⟨33, _, 1, Or.inr rfl, Or.inl ⟨rfl, hs, fun j hj => he j (by omega)⟩, cl.trans (by
          refine XS.iloadN X0.here hexec rfl (hb hbytes d9) rfl ?_
          refine XS.aloadN X0.here hexec rfl (hb hbytes d10) rfl rfl ?_
          refine X0.alen hexec hA0 rfl rfl (hb hbytes d11) ?_
          refine XS.icmpYes X0.here hexec rfl (pc0 := 12) rfl (hb hbytes d12) rfl (ii_ge_t (nlt32 (by omega) (by omega))) (by decide) rfl ?_
          refine iconstV X0.here hexec rfl 1 (hb hbytes d32) (by decide) ?_
          exact Steps.refl _)⟩
      | succ r ih =>
        intro i hi he cl
        have c4 : Steps p.tables e below (s₁.setTop (entryFrame m #[.ref a, .ref b] 3)) (s₁.setTop (mkF m 21 #[.val (.ref a), .val (.ref b), .val (.int (Int32.ofNat i))] [.int (yv B i), .int (yv A i)])) := cl.trans (by
          refine XS.iloadN X0.here hexec rfl (hb hbytes d9) rfl ?_
          refine XS.aloadN X0.here hexec rfl (hb hbytes d10) rfl rfl ?_
          refine X0.alen hexec hA0 rfl rfl (hb hbytes d11) ?_
          refine XS.icmpNo X0.here hexec rfl (hb hbytes d12) rfl (ii_ge_f (lt32 (by omega) (by omega))) ?_
          refine XS.aloadN X0.here hexec rfl (hb hbytes d15) rfl rfl ?_
          refine XS.iloadN X0.here hexec rfl (hb hbytes d16) rfl ?_
          refine X0.aget hexec hA0 rfl (yv_get hA tA (i := i) (by omega)) rfl rfl (hb hbytes d17) ?_
          refine XS.aloadN X0.here hexec rfl (hb hbytes d18) rfl rfl ?_
          refine XS.iloadN X0.here hexec rfl (hb hbytes d19) rfl ?_
          refine X0.aget hexec hB0 rfl (yv_get hB tB (i := i) (by omega)) rfl rfl (hb hbytes d20) ?_
          exact Steps.refl _)
        by_cases hv : yv A i = yv B i
        · have c5 : Steps p.tables e below (s₁.setTop (entryFrame m #[.ref a, .ref b] 3)) (s₁.setTop (mkF m 9 #[.val (.ref a), .val (.ref b), .val (.int (Int32.ofNat i + 1))] [])) := c4.trans (by
            refine XS.icmpYes X0.here hexec rfl (pc0 := 21) rfl (hb hbytes d21) rfl (ii_eq_t hv) (by decide) rfl ?_
            refine iincV X0.here hexec rfl 1 (hb hbytes d26) (by decide) rfl rfl ?_
            refine XS.goto X0.here hexec rfl (pc0 := 29) rfl (hb hbytes d29) (by decide) rfl ?_
            exact Steps.refl _)
          rw [succ32] at c5
          exact ih (i + 1) (by omega) (fun j hj => by
            by_cases e : j = i
            · rw [e]; exact hv
            · exact he j (by omega)) c5
        · exact ⟨25, _, 0, Or.inl rfl, Or.inr ⟨rfl, fun q => hv (q.2 i (by omega))⟩, c4.trans (by
            refine XS.icmpNo X0.here hexec rfl (hb hbytes d21) rfl (ii_eq_f hv) ?_
            refine iconstV X0.here hexec rfl 0 (hb hbytes d24) (by decide) ?_
            exact Steps.refl _)⟩
    obtain ⟨pc, Ls, v, hpc, hv, cz⟩ := loop A.slots.size 0 (by omega) (fun j hj => absurd hj (Nat.not_lt_zero j)) c3
    have nv : narrow .boolean (.int v) = .int v := by rcases hv with ⟨rfl, -⟩ | ⟨rfl, -⟩ <;> rfl
    rcases hpc with rfl | rfl
    · exact ⟨s₁, some (.int v), _, _, _, X0, rfl, rfl, rfl, (fun h => by cases h), ⟨v, rfl, hh0, hv⟩, fun fs hl => cz.trans (X0.ireturnOut hexec hret nv (Or.inr (Or.inl rfl)) (hb hbytes d25) hl)⟩
    · exact ⟨s₁, some (.int v), _, _, _, X0, rfl, rfl, rfl, (fun h => by cases h), ⟨v, rfl, hh0, hv⟩, fun fs hl => cz.trans (X0.ireturnOut hexec hret nv (Or.inr (Or.inl rfl)) (hb hbytes d33) hl)⟩
  · have c3 : Steps p.tables e below (s₁.setTop (entryFrame m #[.ref a, .ref b] 3)) (s₁.setTop (mkF m 35 #[.val (.ref a), .val (.ref b), .unset] [.int 0])) := c2.trans (by
      refine XS.icmpYes X0.here hexec rfl (pc0 := 4) rfl (hb hbytes d4) rfl (ii_ne_t (ne32 a31 b31 hs)) (by decide) rfl ?_
      refine iconstV X0.here hexec rfl 0 (hb hbytes d34) (by decide) ?_
      exact Steps.refl _)
    exact ⟨s₁, some (.int 0), _, _, _, X0, rfl, rfl, rfl, (fun h => by cases h), ⟨0, rfl, hh0, Or.inr ⟨rfl, fun q => hs q.1⟩⟩, fun fs hl => c3.trans (X0.ireturnOut hexec hret rfl (Or.inr (Or.inl rfl)) (hb hbytes d35) hl)⟩
end LEq
theorem Cod.ty {cd : Int32} {n : Nat} {f : Nat → Int32} {V : Cell} (h : Cod cd n f V) : Typed .byte V := fun i v hv => by
  have hi : i < V.slots.size := (Array.getElem?_eq_some_iff.mp hv).1
  rcases h with ⟨-, k1, k2⟩ | ⟨-, k1, k2, -⟩
  · rw [(k2 i (by omega)).1] at hv; cases hv; exact fits_lo8 _
  · rcases Nat.mod_two_eq_zero_or_one i with e | e
    · obtain ⟨j, rfl⟩ : ∃ j, i = 2 * j := ⟨i / 2, by omega⟩
      rw [(k2 j (by omega)).1] at hv; cases hv; exact fits_lo8 _
    · obtain ⟨j, rfl⟩ : ∃ j, i = 2 * j + 1 := ⟨i / 2, by omega⟩
      rw [(k2 j (by omega)).2] at hv; cases hv; exact fits_lo8 _
/-- the same text -/
def SameT (n : Nat) (f : Nat → Int32) (k : Nat) (g : Nat → Int32) : Prop := n = k ∧ ∀ j, j < n → f j = g j
theorem lo8_inj {x y : Int32} (h0 : ¬ x < 0) (h1 : ¬ 255 < x) (k0 : ¬ y < 0) (k1 : ¬ 255 < y) (h : lo8 x = lo8 y) : x = y := by
  rw [← lo8_mask h0 h1, ← lo8_mask k0 k1, h]
/-- arrays coded by one coder are equal just where the texts are -/
theorem Cod.eqv {cd : Int32} {n k : Nat} {f g : Nat → Int32} {V V' : Cell} (h : Cod cd n f V) (h' : Cod cd k g V') (hf : ∀ j, j < n → ¬ f j < 0 ∧ ¬ 65535 < f j) (hg : ∀ j, j < k → ¬ g j < 0 ∧ ¬ 65535 < g j) : EqC V V' ↔ SameT n f k g := by
  have yvv : ∀ {W : Cell} {i : Nat} {x : Int32}, W.slots[i]? = some (.int x) → yv W i = x := fun q => by unfold yv; rw [q]
  rcases h with ⟨rfl, k1, k2⟩ | ⟨rfl, k1, k2, -⟩
  · rcases h' with ⟨-, m1, m2⟩ | ⟨e, -⟩
    · constructor
      · rintro ⟨e1, e2⟩
        refine ⟨by omega, fun j hj => ?_⟩
        have q := e2 j (by omega)
        rw [yvv (k2 j hj).1, yvv (m2 j (by omega)).1] at q
        exact lo8_inj (hf j hj).1 (k2 j hj).2 (hg j (by omega)).1 (m2 j (by omega)).2 q
      · rintro ⟨rfl, e2⟩
        refine ⟨by omega, fun j hj => ?_⟩
        rw [yvv (k2 j (by omega)).1, yvv (m2 j (by omega)).1, e2 j (by omega)]
    · exact absurd e (by decide)
  · rcases h' with ⟨e, -⟩ | ⟨-, m1, m2, -⟩
    · exact absurd e (by decide)
    · constructor
      · rintro ⟨e1, e2⟩
        refine ⟨by omega, fun j hj => ?_⟩
        have q1 := e2 (2 * j) (by omega)
        have q2 := e2 (2 * j + 1) (by omega)
        rw [yvv (k2 j hj).1, yvv (m2 j (by omega)).1] at q1
        rw [yvv (k2 j hj).2, yvv (m2 j (by omega)).2] at q2
        rw [← pair_says (hf j hj).1 (hf j hj).2, ← pair_says (hg j (by omega)).1 (hg j (by omega)).2, q1, q2]
      · rintro ⟨rfl, e2⟩
        refine ⟨by omega, fun i hi => ?_⟩
        rcases Nat.mod_two_eq_zero_or_one i with e | e
        · obtain ⟨j, rfl⟩ : ∃ j, i = 2 * j := ⟨i / 2, by omega⟩
          rw [yvv (k2 j (by omega)).1, yvv (m2 j (by omega)).1, e2 j (by omega)]
        · obtain ⟨j, rfl⟩ : ∃ j, i = 2 * j + 1 := ⟨i / 2, by omega⟩
          rw [yvv (k2 j (by omega)).2, yvv (m2 j (by omega)).2, e2 j (by omega)]
/-- two codings differ: so do the texts -/
theorem Cod.dif {cd cd' : Int32} {n k : Nat} {f g : Nat → Int32} {V V' : Cell} (h : Cod cd n f V) (h' : Cod cd' k g V') (hne : ¬ cd = cd') : ¬ SameT n f k g := by
  rintro ⟨rfl, e⟩
  rcases h with ⟨rfl, -, k2⟩ | ⟨rfl, -, -, j, hj, hw⟩
  · rcases h' with ⟨rfl, -⟩ | ⟨-, -, -, j, hj, hw⟩
    · exact hne rfl
    · exact (k2 j hj).2 (by rw [e j hj]; exact hw)
  · rcases h' with ⟨-, -, m2⟩ | ⟨rfl, -⟩
    · exact (m2 j hj).2 (by rw [← e j hj]; exact hw)
    · exact hne rfl
/-- an object of exactly C is an instance of C -/
theorem cinst {p : Program} {l : Launch} {e : Env} {R : Room} {s : State} {m : MethodId} {args : Array Value} {below : List Frame} {meth : Method} {c : Code} {T : State} {locs : List Loc} {cells slots : Nat} (X : Stand p l e R s m args below meth c T locs cells slots) (hexec : p.tables.exec = Jvm.exec) {own C : String} {index : Nat} (hown : s.vm.findClass own = some m.cls) (hlink : (Cond.classLink own index C).before args s = true) {a : Addr} (hE : Exact C a T)
    {g : JFrame} (hg : g.method = m) {rest : List Value} (hstack : g.stack = .ref a :: rest) (hdg : decode c.code g.pc = .ok (.instanceof index, 3)) :
    ∃ T', Stand p l e R s m args below meth c T' locs cells slots ∧ T'.heap = T.heap ∧ ∀ target, Steps p.tables e below (T'.setTop { g with pc := g.pc + 3, stack := .int 1 :: rest }) target → Steps p.tables e below (T.setTop g) target := by
  obtain ⟨cB, h1, D, h2, h3, h4⟩ := hE
  have h1' : s.vm.findClass C = some cB := by rw [← X.warmed.alike.findClass]; exact h1
  obtain ⟨vm', X', st⟩ := X.instanceofYes hexec hown hlink h2 h4 h1' (by rw [h3]; exact Jvm.Free.SB.assignable_self _ _) hg hstack hdg
  exact ⟨_, X', rfl, st⟩
theorem cself {p : Program} {l : Launch} {e : Env} {R : Room} {s : State} {m : MethodId} {args : Array Value} {below : List Frame} {meth : Method} {c : Code} {T : State} {locs : List Loc} {cells slots : Nat} (X : Stand p l e R s m args below meth c T locs cells slots) (hexec : p.tables.exec = Jvm.exec) {own C : String} {index : Nat} (hown : s.vm.findClass own = some m.cls) (hlink : (Cond.classLink own index C).before args s = true) {a : Addr} (hE : Exact C a T)
    {g : JFrame} (hg : g.method = m) {rest : List Value} (hstack : g.stack = .ref a :: rest) (hdg : decode c.code g.pc = .ok (.checkcast index, 3)) :
    ∃ T', Stand p l e R s m args below meth c T' locs cells slots ∧ T'.heap = T.heap ∧ ∀ target, Steps p.tables e below (T'.setTop { g with pc := g.pc + 3, stack := .ref a :: rest }) target → Steps p.tables e below (T.setTop g) target := by
  obtain ⟨cB, h1, D, h2, h3, h4⟩ := hE
  have h1' : s.vm.findClass C = some cB := by rw [← X.warmed.alike.findClass]; exact h1
  obtain ⟨vm', X', st⟩ := X.checkcastYes hexec hown hlink h2 h4 h1' (by rw [h3]; exact Jvm.Free.SB.assignable_self _ _) hg hstack hdg
  exact ⟨_, X', rfl, fun t h => st t (by rw [← hstack] at h; exact h)⟩
namespace SEq
def yN : MethodName := ⟨"java/lang/String", "equals", "(Ljava/lang/Object;)Z"⟩
abbrev yB : ByteArray := jdk_42_method_66_code
theorem d0 : decode yB 0 = .ok (.aload_n 0, 1) := by decide +kernel
theorem d1 : decode yB 1 = .ok (.aload_n 1, 1) := by decide +kernel
theorem d2 : decode yB 2 = .ok (.if_acmp (.ne) 5, 3) := by decide +kernel
theorem d5 : decode yB 5 = .ok (.iconst 1, 1) := by decide +kernel
theorem d6 : decode yB 6 = .ok (.ireturn, 1) := by decide +kernel
theorem d7 : decode yB 7 = .ok (.aload_n 1, 1) := by decide +kernel
theorem d8 : decode yB 8 = .ok (.instanceof 10, 3) := by decide +kernel
theorem d11 : decode yB 11 = .ok (.ifCond (.eq) 43, 3) := by decide +kernel
theorem d14 : decode yB 14 = .ok (.aload_n 1, 1) := by decide +kernel
theorem d15 : decode yB 15 = .ok (.checkcast 10, 3) := by decide +kernel
theorem d18 : decode yB 18 = .ok (.astore_n 2, 1) := by decide +kernel
theorem d19 : decode yB 19 = .ok (.getstatic 38, 3) := by decide +kernel
theorem d22 : decode yB 22 = .ok (.ifCond (.eq) 14, 3) := by decide +kernel
theorem d25 : decode yB 25 = .ok (.aload_n 0, 1) := by decide +kernel
theorem d26 : decode yB 26 = .ok (.getfield 15, 3) := by decide +kernel
theorem d29 : decode yB 29 = .ok (.aload_n 2, 1) := by decide +kernel
theorem d30 : decode yB 30 = .ok (.getfield 15, 3) := by decide +kernel
theorem d33 : decode yB 33 = .ok (.if_icmp (.ne) 21, 3) := by decide +kernel
theorem d36 : decode yB 36 = .ok (.aload_n 0, 1) := by decide +kernel
theorem d37 : decode yB 37 = .ok (.getfield 9, 3) := by decide +kernel
theorem d40 : decode yB 40 = .ok (.aload_n 2, 1) := by decide +kernel
theorem d41 : decode yB 41 = .ok (.getfield 9, 3) := by decide +kernel
theorem d44 : decode yB 44 = .ok (.invokestatic 541, 3) := by decide +kernel
theorem d47 : decode yB 47 = .ok (.ifCond (.eq) 7, 3) := by decide +kernel
theorem d50 : decode yB 50 = .ok (.iconst 1, 1) := by decide +kernel
theorem d51 : decode yB 51 = .ok (.goto 4, 3) := by decide +kernel
theorem d54 : decode yB 54 = .ok (.iconst 0, 1) := by decide +kernel
theorem d55 : decode yB 55 = .ok (.ireturn, 1) := by decide +kernel
def site : List Cond := [.classLink "java/lang/String" 10 "java/lang/String", .fieldLink "java/lang/String" 38 "java/lang/String" "COMPACT_STRINGS" "Z", .fieldLink "java/lang/String" 15 "java/lang/String" "coder" "B", .fieldLink "java/lang/String" 9 "java/lang/String" "value" "[B", LEq.tab] ++ staticW "java/lang/String" 541 LEq.yN
def tab : Cond := tabOf yN yB 3 (some .boolean) site
def P (x t : Addr) (V : Cell) (cd : Int32) (n : Nat) (f : Nat → Int32) (y t' : Addr) (V' : Cell) (cd' : Int32) (k : Nat) (g : Nat → Int32) (z : Int32) (args : Array Value) (s : State) : Prop := args = #[.ref x, .ref y] ∧ Txt x t V cd n f s ∧ Txt y t' V' cd' k g s ∧ StaticIs s "java/lang/String" "COMPACT_STRINGS" "Z" (.int z) ∧ ¬ z = 0
/-- equals(Object) of two Strings: whether the texts are the same -/
theorem law (l : Launch) (x t : Addr) (V : Cell) (cd : Int32) (n : Nat) (f : Nat → Int32) (y t' : Addr) (V' : Cell) (cd' : Int32) (k : Nat) (g : Nat → Int32) (z : Int32) : Law l yN 2 1 1 14 yB 3 (some .boolean) site (P x t V cd n f y t' V' cd' k g z) (Says01 (SameT n f k g)) [] 0 0 := by
  refine Law.of_walk (plainFor_of_name (by decide +kernel)) (by decide +kernel) (by decide +kernel) (by decide) (fun _ _ h => by rw [h.1]; rfl) (fun _ U U' hal hh h => ⟨h.1, h.2.1.mv hal hh, h.2.2.1.mv hal hh, h.2.2.2.1.there hal hh, h.2.2.2.2⟩) (fun r U U' V V' h1 hal h2 h => Says01.mv r U U' V V' h1 hal h2 h) ?_
  intro p e s m args below meth c s₁ X0 hexec hbytes hml hret hlk hnm hown hh0 W hP
  obtain ⟨rfl, hx, hy, s1, hz⟩ := hP
  have c1 : Steps p.tables e below (s₁.setTop (entryFrame m #[.ref x, .ref y] 3)) (s₁.setTop (mkF m 2 #[.val (.ref x), .val (.ref y), .unset] [.ref y, .ref x])) := Steps.trans (entry rfl) (by
    show Steps p.tables e below (s₁.setTop (mkF m 0 #[.val (.ref x), .val (.ref y), .unset] [])) _
    refine XS.aloadN X0.here hexec rfl (hb hbytes d0) rfl rfl ?_
    refine XS.aloadN X0.here hexec rfl (hb hbytes d1) rfl rfl ?_
    exact Steps.refl _)
  by_cases hxy : x = y
  · have c2 : Steps p.tables e below (s₁.setTop (entryFrame m #[.ref x, .ref y] 3)) (s₁.setTop (mkF m 6 #[.val (.ref x), .val (.ref y), .unset] [.int 1])) := c1.trans (by
      refine acmpNo X0.here hexec rfl (hb hbytes d2) rfl rfl rfl (by simp [acmp, hxy]) ?_
      refine iconstV X0.here hexec rfl 1 (hb hbytes d5) (by decide) ?_
      exact Steps.refl _)
    subst hxy
    have ec : cd = cd' := by
      obtain ⟨D, fd, a1, a2, a3⟩ := hx.2.2.1
      obtain ⟨D', fd', b1, b2, b3⟩ := hy.2.2.1
      cases a1.symm.trans b1
      obtain ⟨q1, q2, q3, q4⟩ := a2.1
      obtain ⟨r1, r2, r3, r4⟩ := b2.1
      cases q4.symm.trans r4
      cases a3.symm.trans b3; rfl
    have et : t = t' := by
      obtain ⟨D, fd, a1, a2, a3⟩ := hx.2.1
      obtain ⟨D', fd', b1, b2, b3⟩ := hy.2.1
      cases a1.symm.trans b1
      obtain ⟨q1, q2, q3, q4⟩ := a2.1
      obtain ⟨r1, r2, r3, r4⟩ := b2.1
      cases q4.symm.trans r4
      cases a3.symm.trans b3; rfl
    subst ec et
    have ev : V = V' := by cases hx.2.2.2.1.1.symm.trans hy.2.2.2.1.1; rfl
    subst ev
    have hs : SameT n f k g := (Cod.eqv hx.2.2.2.2.1 hy.2.2.2.2.1 hx.2.2.2.2.2 hy.2.2.2.2.2).mp ⟨rfl, fun _ _ => rfl⟩
    exact ⟨s₁, some (.int 1), _, _, _, X0, rfl, rfl, rfl, (fun h => by cases h), ⟨1, rfl, hh0, Or.inl ⟨rfl, hs⟩⟩, fun fs hl => c2.trans (X0.ireturnOut hexec hret rfl (Or.inr (Or.inl rfl)) (hb hbytes d6) hl)⟩
  · have c2 : Steps p.tables e below (s₁.setTop (entryFrame m #[.ref x, .ref y] 3)) (s₁.setTop (mkF m 8 #[.val (.ref x), .val (.ref y), .unset] [.ref y])) := c1.trans (by
      refine acmpYes X0.here hexec rfl (pc0 := 2) rfl (hb hbytes d2) rfl rfl rfl (by simp [acmp, hxy]) (by decide) rfl ?_
      refine XS.aloadN X0.here hexec rfl (hb hbytes d7) rfl rfl ?_
      exact Steps.refl _)
    obtain ⟨T3, X3, q3, st3⟩ := cinst X0 hexec hown (wk W (.classLink "java/lang/String" 10 "java/lang/String")) (hy.mv X0.warmed.alike hh0).1 (g := (mkF m 8 #[.val (.ref x), .val (.ref y), .unset] [.ref y])) rfl (rest := []) rfl (hb hbytes d8)
    have hh3 := q3.trans hh0
    have c4 : Steps p.tables e below (s₁.setTop (entryFrame m #[.ref x, .ref y] 3)) (T3.setTop (mkF m 15 #[.val (.ref x), .val (.ref y), .unset] [.ref y])) := (c2.trans (st3 _ (Steps.refl _))).trans (by
      refine XS.ifNo X3.here hexec rfl (hb hbytes d11) rfl (i0_eq_f (by decide)) ?_
      refine XS.aloadN X3.here hexec rfl (hb hbytes d14) rfl rfl ?_
      exact Steps.refl _)
    obtain ⟨T5, X5, q5, st5⟩ := cself X3 hexec hown (wk W (.classLink "java/lang/String" 10 "java/lang/String")) (hy.mv X3.warmed.alike hh3).1 (g := (mkF m 15 #[.val (.ref x), .val (.ref y), .unset] [.ref y])) rfl (rest := []) rfl (hb hbytes d15)
    have hh5 := q5.trans hh3
    have c6 : Steps p.tables e below (s₁.setTop (entryFrame m #[.ref x, .ref y] 3)) (T5.setTop (mkF m 19 #[.val (.ref x), .val (.ref y), .val (.ref y)] [])) := (c4.trans (st5 _ (Steps.refl _))).trans (by
      refine XS.astoreN X5.here hexec rfl (hb hbytes d18) rfl rfl rfl ?_
      exact Steps.refl _)
    obtain ⟨T7, X7, q7, st7⟩ := X5.sget hexec hown (wk W (.fieldLink "java/lang/String" 38 "java/lang/String" "COMPACT_STRINGS" "Z")) s1 (fun _ _ h => by rw [hh5]; exact h) (g := (mkF m 19 #[.val (.ref x), .val (.ref y), .val (.ref y)] [])) rfl (hb hbytes d19)
    have hh7 := q7.trans hh5
    have c8 : Steps p.tables e below (s₁.setTop (entryFrame m #[.ref x, .ref y] 3)) (T7.setTop (mkF m 26 #[.val (.ref x), .val (.ref y), .val (.ref y)] [.ref x])) := (c6.trans (st7 _ (Steps.refl _))).trans (by
      refine XS.ifNo X7.here hexec rfl (hb hbytes d22) rfl (i0_eq_f hz) ?_
      refine XS.aloadN X7.here hexec rfl (hb hbytes d25) rfl rfl ?_
      exact Steps.refl _)
    obtain ⟨T9, X9, q9, st9⟩ := X7.hget hexec hown (wk W (.fieldLink "java/lang/String" 15 "java/lang/String" "coder" "B")) (hx.mv X7.warmed.alike hh7).2.2.1 (g := (mkF m 26 #[.val (.ref x), .val (.ref y), .val (.ref y)] [.ref x])) rfl (rest := []) rfl (hb hbytes d26)
    have hh9 := q9.trans hh7
    have c10 : Steps p.tables e below (s₁.setTop (entryFrame m #[.ref x, .ref y] 3)) (T9.setTop (mkF m 30 #[.val (.ref x), .val (.ref y), .val (.ref y)] [.ref y, .int cd])) := (c8.trans (st9 _ (Steps.refl _))).trans (by
      refine XS.aloadN X9.here hexec rfl (hb hbytes d29) rfl rfl ?_
      exact Steps.refl _)
    obtain ⟨T11, X11, q11, st11⟩ := X9.hget hexec hown (wk W (.fieldLink "java/lang/String" 15 "java/lang/String" "coder" "B")) (hy.mv X9.warmed.alike hh9).2.2.1 (g := (mkF m 30 #[.val (.ref x), .val (.ref y), .val (.ref y)] [.ref y, .int cd])) rfl (rest := [.int cd]) rfl (hb hbytes d30)
    have hh11 := q11.trans hh9
    have c12 : Steps p.tables e below (s₁.setTop (entryFrame m #[.ref x, .ref y] 3)) (T11.setTop (mkF m 33 #[.val (.ref x), .val (.ref y), .val (.ref y)] [.int cd', .int cd])) := c10.trans (st11 _ (Steps.refl _))
    by_cases hcd : cd = cd'
    · subst hcd
      have c13 : Steps p.tables e below (s₁.setTop (entryFrame m #[.ref x, .ref y] 3)) (T11.setTop (mkF m 37 #[.val (.ref x), .val (.ref y), .val (.ref y)] [.ref x])) := c12.trans (by
        refine XS.icmpNo X11.here hexec rfl (hb hbytes d33) rfl (ii_ne_f rfl) ?_
        refine XS.aloadN X11.here hexec rfl (hb hbytes d36) rfl rfl ?_
        exact Steps.refl _)
      obtain ⟨T14, X14, q14, st14⟩ := X11.hget hexec hown (wk W (.fieldLink "java/lang/String" 9 "java/lang/String" "value" "[B")) (hx.mv X11.warmed.alike hh11).2.1 (g := (mkF m 37 #[.val (.ref x), .val (.ref y), .val (.ref y)] [.ref x])) rfl (rest := []) rfl (hb hbytes d37)
      have hh14 := q14.trans hh11
      have c15 : Steps p.tables e below (s₁.setTop (entryFrame m #[.ref x, .ref y] 3)) (T14.setTop (mkF m 41 #[.val (.ref x), .val (.ref y), .val (.ref y)] [.ref y, .ref t])) := (c13.trans (st14 _ (Steps.refl _))).trans (by
        refine XS.aloadN X14.here hexec rfl (hb hbytes d40) rfl rfl ?_
        exact Steps.refl _)
      obtain ⟨T16, X16, q16, st16⟩ := X14.hget hexec hown (wk W (.fieldLink "java/lang/String" 9 "java/lang/String" "value" "[B")) (hy.mv X14.warmed.alike hh14).2.1 (g := (mkF m 41 #[.val (.ref x), .val (.ref y), .val (.ref y)] [.ref y, .ref t])) rfl (rest := [.ref t]) rfl (hb hbytes d41)
      have hh16 := q16.trans hh14
      have c17 : Steps p.tables e below (s₁.setTop (entryFrame m #[.ref x, .ref y] 3)) (T16.setTop (mkF m 44 #[.val (.ref x), .val (.ref y), .val (.ref y)] [.ref t', .ref t])) := c15.trans (st16 _ (Steps.refl _))
      obtain ⟨v18, T18, X18, E18, g18⟩ := X16.callS hexec (LEq.law l t V t' V') hown (wks W (staticW "java/lang/String" 541 LEq.yN)) (wk W LEq.tab) (W := 0) (Nat.le_of_ble_eq_true rfl) (Nat.le_of_ble_eq_true rfl) (Nat.le_refl _) (Nat.le_refl _) (g := (mkF m 44 #[.val (.ref x), .val (.ref y), .val (.ref y)] [.ref t', .ref t])) rfl (by rw [hml]; rfl) c17 (argsL := [.ref t, .ref t']) (rest := []) rfl rfl (by show 2 * 0 + 0 ≤ _; decide) (hb hbytes d44) (⟨rfl, hx.2.2.2.1.mv X16.warmed.alike hh16, hx.2.2.2.2.1.ty, hy.2.2.2.1.mv X16.warmed.alike hh16, hy.2.2.2.2.1.ty⟩)
      obtain ⟨v, rfl, q18, hv⟩ := E18
      have iff := Cod.eqv hx.2.2.2.2.1 hy.2.2.2.2.1 hx.2.2.2.2.2 hy.2.2.2.2.2
      rcases hv with ⟨rfl, he⟩ | ⟨rfl, he⟩
      · have c19 : Steps p.tables e below (s₁.setTop (entryFrame m #[.ref x, .ref y] 3)) (T18.setTop (mkF m 55 #[.val (.ref x), .val (.ref y), .val (.ref y)] [.int 1])) := Steps.trans g18 (by
          refine XS.ifNo X18.here hexec rfl (hb hbytes d47) rfl (i0_eq_f (by decide)) ?_
          refine iconstV X18.here hexec rfl 1 (hb hbytes d50) (by decide) ?_
          refine XS.goto X18.here hexec rfl (pc0 := 51) rfl (hb hbytes d51) (by decide) rfl ?_
          exact Steps.refl _)
        exact ⟨T18, some (.int 1), _, _, _, X18, rfl, rfl, rfl, (fun h => by cases h), ⟨1, rfl, q18.trans hh16, Or.inl ⟨rfl, iff.mp he⟩⟩, fun fs hl => c19.trans (X18.ireturnOut hexec hret rfl (Or.inr (Or.inl rfl)) (hb hbytes d55) hl)⟩
      · have c19 : Steps p.tables e below (s₁.setTop (entryFrame m #[.ref x, .ref y] 3)) (T18.setTop (mkF m 55 #[.val (.ref x), .val (.ref y), .val (.ref y)] [.int 0])) := Steps.trans g18 (by
          refine XS.ifYes X18.here hexec rfl (pc0 := 47) rfl (hb hbytes d47) rfl (i0_eq_t rfl) (by decide) rfl ?_
          refine iconstV X18.here hexec rfl 0 (hb hbytes d54) (by decide) ?_
          exact Steps.refl _)
        exact ⟨T18, some (.int 0), _, _, _, X18, rfl, rfl, rfl, (fun h => by cases h), ⟨0, rfl, q18.trans hh16, Or.inr ⟨rfl, fun q => he (iff.mpr q)⟩⟩, fun fs hl => c19.trans (X18.ireturnOut hexec hret rfl (Or.inr (Or.inl rfl)) (hb hbytes d55) hl)⟩
    · have c13 : Steps p.tables e below (s₁.setTop (entryFrame m #[.ref x, .ref y] 3)) (T11.setTop (mkF m 55 #[.val (.ref x), .val (.ref y), .val (.ref y)] [.int 0])) := c12.trans (by
        refine XS.icmpYes X11.here hexec rfl (pc0 := 33) rfl (hb hbytes d33) rfl (ii_ne_t hcd) (by decide) rfl ?_
        refine iconstV X11.here hexec rfl 0 (hb hbytes d54) (by decide) ?_
        exact Steps.refl _)
      exact ⟨T11, some (.int 0), _, _, _, X11, rfl, rfl, rfl, (fun h => by cases h), ⟨0, rfl, hh11, Or.inr ⟨rfl, Cod.dif hx.2.2.2.2.1 hy.2.2.2.2.1 hcd⟩⟩, fun fs hl => c13.trans (X11.ireturnOut hexec hret rfl (Or.inr (Or.inl rfl)) (hb hbytes d55) hl)⟩
theorem pays {l : Launch} {R : Room} {p : Program} {e : Env} {below : List Frame} {s : State} {sargs : Array Value} {len W : Nat} (x t : Addr) (V : Cell) (cd : Int32) (n : Nat) (f : Nat → Int32) (y t' : Addr) (V' : Cell) (cd' : Int32) (k : Nat) (g : Nat → Int32) (z : Int32) (htab : tab.before sargs s = true) (hfr : 2 ≤ R.frames) (hlo : W + 28 ≤ R.locals) :
    Back l R p e below s sargs yN len W (fun A₁ a₁ => A₁.cells + 0 ≤ R.cells ∧ A₁.slots + 0 ≤ R.slots ∧ P x t V cd n f y t' V' cd' k g z a₁ A₁.U) (fun A₁ _ v₁ B₁ => Says01 (SameT n f k g) v₁ A₁.U B₁.U ∧ B₁.locs = A₁.locs ++ [] ∧ B₁.cells = A₁.cells + 0 ∧ B₁.slots = A₁.slots + 0) :=
  (law l x t V cd n f y t' V' cd' k g z).pays htab hfr (by omega)
end SEq
end StrChars
namespace StrChars.Road
open Jvm Sem ClassFile Op Lib Jvm.Stand Jvm.Free Jvm.Free.XT
open Jvm.Lib.Cold (StaticIs)
/-- the words of String.equals(Object) -/
abbrev wordsEq : List Jvm.Cond := [.code SEq.yN SEq.yB 3 (some .boolean), .initialized ST, .classLink ST 10 ST, .fieldLink ST 38 ST "COMPACT_STRINGS" "Z", .fieldLink ST 15 ST "coder" "B", .fieldLink ST 9 ST "value" "[B", .methodLink ST 541 LEq.yN, .static LEq.yN, .code LEq.yN LEq.yB 3 (some .boolean), .initialized "java/lang/StringLatin1"]
theorem tabEq_of {a : Array Value} {s : State} (h : ∀ w ∈ wordsEq, w.before a s = true) : SEq.tab.before a s = true := by
  have hl : LEq.tab.before a s = true := unparts (wk h (.code LEq.yN LEq.yB 3 (some .boolean))) (wks h (.initialized LEq.yN.cls :: LEq.site))
  have q := consq hl h
  exact unparts (wk q (.code SEq.yN SEq.yB 3 (some .boolean))) (wks q (.initialized SEq.yN.cls :: SEq.site))
theorem movedEq {Z s : State} {a0 args : Array Value} (hZ : Z.Warmed39 s.vm) (hw : ∀ d ∈ wordsEq, d.before a0 Z = true) : ∀ d ∈ wordsEq, d.before args s = true := fun d hd => by
  have t : ∀ d ∈ wordsEq, (d.onTables && d.keepsFace) = true := by decide +kernel
  exact RoadKit.mv hZ (hw d hd) (t d hd)
/-- the road's facts of a String, as the laws ask it -/
theorem txt_of {Z U : State} {a0 : Array Value} {kI : Nat} (wi : (Jvm.Cond.instantiable ST kI).before a0 Z = true) (al : Z.vm.Alike U.vm) {x t : Addr} {kb : ClassId} {cs : List Int32} {cd N2 : Int32} {vs : List Value} (E : RoadKit.Exa Z U.heap x ST) (V : RoadKit.Fld Z U.heap x ST "value" "[B" (.ref t)) (C : RoadKit.Fld Z U.heap x ST "coder" "B" (.int cd)) (K : RoadKit.Arv Z U.heap t kb .byte N2 vs (.int 0)) (hc : CodA cs cd N2 vs) (hb : ∀ c ∈ cs, ¬ c < 0 ∧ ¬ (65535 : Int32) < c) (l2 : cs.length ≤ 4000) :
    ∃ A, Txt x t A cd cs.length (fun j => cs.getD j 0) U := by
  obtain ⟨A, K1, K2, K3, K4, K5, K6⟩ := K
  have hcod := hc.cod (by omega) K3 K5
  obtain ⟨D, fV, fC, hB, F1, F2, g1, g2, -, -⟩ := strObj wi al E V C
  exact ⟨A, ⟨_, hB.2.2.1, D, hB.1, rfl, by cases q : D.vm <;> first | rfl | exact absurd q (hB.2.1.2 _)⟩, Has.of hB F1 g1, Has.of hB F2 g2, ⟨K1.1, State.isArrayOf_alike al K1.2.1, K1.2.2, by rcases hcod with ⟨-, q, -⟩ | ⟨-, q, -⟩ <;> omega⟩, hcod, fun j hj => by
    have e : cs.getD j 0 = cs[j] := by simp [List.getD_eq_getElem?_getD, hj]
    show ¬ cs.getD j 0 < 0 ∧ ¬ 65535 < cs.getD j 0
    rw [e]; exact hb _ (List.getElem_mem _)⟩
theorem same_list (cs ds : List Int32) : SameT cs.length (fun j => cs.getD j 0) ds.length (fun j => ds.getD j 0) ↔ cs = ds := by
  constructor
  · rintro ⟨e, q⟩
    refine List.ext_getElem e fun j h1 h2 => ?_
    have := q j h1
    simpa [List.getD_eq_getElem?_getD, h1, h2] using this
  · rintro rfl
    exact ⟨rfl, fun _ _ => rfl⟩
/-- **equals(Object) OF TWO SUCH STRINGS**: 1 just where the chars are the same -/
theorem eqW {p : Program} {l : Launch} {e : Env} {R : Room} {s : State} {args : Array Value} {below : List Frame} {len W : Nat} {Z : State} {a0 : Array Value} {h : Heap} (hZ : Z.Warmed39 s.vm) (hw : ∀ d ∈ wordsEq, d.before a0 Z = true) {kI : Nat} (wi : (Jvm.Cond.instantiable ST kI).before a0 Z = true)
    {x t : Addr} {kb : ClassId} {cs : List Int32} {cd N2 : Int32} {vs : List Value} (E : RoadKit.Exa Z h x ST) (V : RoadKit.Fld Z h x ST "value" "[B" (.ref t)) (C : RoadKit.Fld Z h x ST "coder" "B" (.int cd)) (K : RoadKit.Arv Z h t kb .byte N2 vs (.int 0)) (hc : CodA cs cd N2 vs) (hb : ∀ c ∈ cs, ¬ c < 0 ∧ ¬ (65535 : Int32) < c) (l2 : cs.length ≤ 4000)
    {y t' : Addr} {kb' : ClassId} {ds : List Int32} {cd' N2' : Int32} {vs' : List Value} (E' : RoadKit.Exa Z h y ST) (V' : RoadKit.Fld Z h y ST "value" "[B" (.ref t')) (C' : RoadKit.Fld Z h y ST "coder" "B" (.int cd')) (K' : RoadKit.Arv Z h t' kb' .byte N2' vs' (.int 0)) (hc' : CodA ds cd' N2' vs') (hb' : ∀ c ∈ ds, ¬ c < 0 ∧ ¬ (65535 : Int32) < c) (l2' : ds.length ≤ 4000)
    {z : Int32} (S : RoadKit.Sta Z h ST "COMPACT_STRINGS" "Z" (.int z)) (hz : ¬ z = 0) (hfr : 2 ≤ R.frames) (hlo : W + 28 ≤ R.locals) :
    Back l R p e below s args (⟨"java/lang/String", "equals", "(Ljava/lang/Object;)Z"⟩ : MethodName) len W (fun P a => a = #[.ref x, .ref y] ∧ P.U.heap = h ∧ P.cells + 0 ≤ R.cells ∧ P.slots + 0 ≤ R.slots)
      (fun P _ v B => ∃ L, (((v = some (.int 1) ∧ cs = ds) ∨ (v = some (.int 0) ∧ ¬ cs = ds)) ∧ L = [] ∧ B.U.heap = h) ∧ B.locs = P.locs ++ L ∧ B.cells = P.cells + 0 ∧ B.slots = P.slots + 0) := by
  intro m meth c P g ig mk a X hg hsize hdg hW hn hp'
  obtain ⟨rfl, rfl, r1, r2⟩ := hp'
  have al : Z.vm.Alike P.U.vm := hZ.alike.trans X.warmed.alike
  obtain ⟨A, hx⟩ := txt_of wi al E V C K hc hb l2
  obtain ⟨A', hy⟩ := txt_of wi al E' V' C' K' hc' hb' l2'
  obtain ⟨v, B, X', ⟨⟨w, hv, hh, hq⟩, hl, hk, hs⟩, st⟩ := SEq.pays x t A cd cs.length (fun j => cs.getD j 0) y t' A' cd' ds.length (fun j => ds.getD j 0) z (tabEq_of (movedEq hZ hw)) hfr hlo m meth c P g ig mk _ X hg hsize hdg hW hn ⟨r1, r2, rfl, hx, hy, sta_is al S, hz⟩
  refine ⟨v, B, X', ⟨[], ⟨?_, rfl, hh⟩, hl, hk, hs⟩, st⟩
  rcases hq with ⟨rfl, q⟩ | ⟨rfl, q⟩
  · exact Or.inl ⟨hv, (same_list cs ds).mp q⟩
  · exact Or.inr ⟨hv, fun e => q ((same_list cs ds).mpr e)⟩
end StrChars.Road
namespace StrChars.Road
open Jvm Sem ClassFile Op Lib Jvm.Stand Jvm.Free Jvm.Free.XT
open Jvm.Lib.Cold (StaticIs)
/-- what backV says of its String, as the contracts of this text ask it: cs's low bytes, coder 0 -/
theorem codOf {cs : List Int32} {n : Nat} (hn : cs.length = n) (hb : ∀ c ∈ cs, ¬ 255 < c) : CodA cs 0 (Int32.ofNat n) ((cs.map lo8).map Value.int) := Or.inl ⟨rfl, by rw [hn], by simp [List.map_map, Function.comp_def], hb⟩
end StrChars.Road
end Jvm.Pilot.@@N@@

namespace Jvm.Pilot.@@N@@
open Jvm Jvm.ClassFile Sem Op Lib Jvm.Free Jvm.Stand Jvm.LawKit Jvm.RoadKit Bundle Jvm.Pilot.@@N@@.Jvm.D
namespace Ow
/-- from T with the top frame g the invocation comes to its end, and there Q holds -/
def Run (p : Program) (e : Env) (below : List Frame) (Q : Outcome → State → Prop) (T : State) (g : JFrame) : Prop :=
  ∃ s₂ o, Steps p.tables e below (T.setTop g) s₂ ∧ s₂.status = .running ∧ Ended s₂ below o ∧ Q o s₂
/-- x >>> y of a long -/
def ushJ (x : Int64) (y : Int32) : Int64 := (x.toUInt64 >>> (y &&& 0x3f).toInt64.toUInt64).toInt64
/-- what a walk that may intern keeps beside its Stand: nothing in it speaks of the state at hand but by its heap -/
def Rs (s : State) (m : MethodId) (Z : State) (EL : List (String × Nat)) (own : String) (h0 : Heap) (ws : List Addr) (vm0 : Vm) (k0 : Nat) (locs : List Loc) (h : Heap) (S : List Addr) : Prop :=
  s.Since vm0 k0 ∧ k0 ≤ h.size ∧ Z.Warmed39 vm0 ∧ vm0.findClass own = some m.cls ∧ CHr Z EL s.vm h0 vm0 h ∧ Fr Z.heap.size locs ∧ Keep h0 h ws ∧ Ext Z.heap h0 ∧ (∀ x ∈ ws, Z.heap.size ≤ x) ∧ ∀ x ∈ S, x < h.size ∧ Safe Z EL vm0 h x
/-- where a walk stands: its heap h, what it has made, and the addresses S that no constant books -/
def Wk (p : Program) (l : Launch) (e : Env) (R : Room) (s : State) (m : MethodId) (args : Array Value) (below : List Frame) (meth : Method) (c : Code) (Z : State) (EL : List (String × Nat)) (own : String) (h0 : Heap) (ws : List Addr)
    (T : State) (h : Heap) (cells slots : Nat) (S : List Addr) : Prop :=
  ∃ (vm0 : Vm) (k0 : Nat) (locs : List Loc), p.tables.exec = Jvm.exec ∧ Stand p l e R (s.setVm vm0) m args below meth c T locs cells slots ∧ T.heap = h ∧ Rs s m Z EL own h0 ws vm0 k0 locs h S
section Kit
variable {p : Program} {l : Launch} {e : Env} {R : Room} {s : State} {m : MethodId} {args : Array Value} {below : List Frame} {meth : Method} {c : Code} {Z : State} {a0 : Array Value} {EL : List (String × Nat)} {own : String} {h0 : Heap} {ws : List Addr} {T T' : State} {h h' hB : Heap} {cells slots : Nat} {S : List Addr} {Q : Outcome → State → Prop} {pc pc' pc1 pc2 : Nat} {Ls l' : Array Slot} {rest st : List Value} {vm0 : Vm} {k0 : Nat} {locs : List Loc} {g g' : JFrame}
theorem Run.to (f : ∀ t, Steps p.tables e below (T'.setTop g') t → Steps p.tables e below (T.setTop g) t) (k : Run p e below Q T' g') : Run p e below Q T g := by
  obtain ⟨a, b, q, r⟩ := k
  exact ⟨a, b, f _ q, r⟩
theorem Run.stp (f : Steps p.tables e below (T.setTop g) (T'.setTop g')) (k : Run p e below Q T' g') : Run p e below Q T g := Run.to (fun _ q => f.trans q) k
theorem Run.join {α : Type} {C : α → Prop} {F : α → JFrame} (k1 : ∀ a, C a → Run p e below Q T (F a)) (k2 : (∀ a, C a → Run p e below Q T (F a)) → Run p e below Q T g) : Run p e below Q T g := k2 k1
theorem Run.joinW (w : Wk p l e R s m args below meth c Z EL own h0 ws T h cells slots S) {α : Type} {C : α → Prop} {F : α → JFrame} (k1 : ∀ T' a, Wk p l e R s m args below meth c Z EL own h0 ws T' h cells slots S → C a → Run p e below Q T' (F a)) (k2 : (∀ T' a, Wk p l e R s m args below meth c Z EL own h0 ws T' h cells slots S → C a → Run p e below Q T' (F a)) → Run p e below Q T g) : Run p e below Q T g := k2 k1
theorem Run.cast (q : g = g') (k : Run p e below Q T g') : Run p e below Q T g := q ▸ k
theorem Rs.ch (r : Rs s m Z EL own h0 ws vm0 k0 locs h S) : CHv Z EL vm0 h := r.2.2.2.2.1.1
theorem Rs.hZ (r : Rs s m Z EL own h0 ws vm0 k0 locs h S) : Z.Warmed39 (s.setVm vm0).vm := r.2.2.1
theorem Rs.ow (r : Rs s m Z EL own h0 ws vm0 k0 locs h S) : (s.setVm vm0).vm.findClass own = some m.cls := r.2.2.2.1
theorem Rs.keep (r : Rs s m Z EL own h0 ws vm0 k0 locs h S) : Keep h0 h ws := r.2.2.2.2.2.2.1
theorem Rs.ext (r : Rs s m Z EL own h0 ws vm0 k0 locs h S) (E : Ext h h') : Rs s m Z EL own h0 ws vm0 k0 locs h' S := by
  obtain ⟨a1, a2, a3, a4, a5, a6, a7, a8, a9, a10⟩ := r
  exact ⟨a1, Nat.le_trans a2 E.1, a3, a4, a5.trans (CHr.ext E a5.1), a6, a7.ext E, a8, a9, fun x q => ⟨Nat.lt_of_lt_of_le (a10 x q).1 E.1, Safe.ext E a5.1 (a10 x q).2⟩⟩
theorem Rs.add (r : Rs s m Z EL own h0 ws vm0 k0 locs h S) (E : Ext h h') {x : Addr} (q1 : h.size ≤ x) (q2 : x < h'.size) : Rs s m Z EL own h0 ws vm0 k0 locs h' (x :: S) := by
  have r' := r.ext E
  obtain ⟨a1, a2, a3, a4, a5, a6, a7, a8, a9, a10⟩ := r'
  refine ⟨a1, a2, a3, a4, a5, a6, a7, a8, a9, fun y q => ?_⟩
  rcases List.mem_cons.mp q with rfl | q
  · exact ⟨q2, Safe.ext E r.ch (Safe.new q1)⟩
  · exact a10 y q
theorem Rs.wr (r : Rs s m Z EL own h0 ws vm0 k0 locs h S) {a : Addr} {sl : Nat} {v : Value} (W : Wr h h' a sl v) (Sa : Safe Z EL vm0 h a) (q : a ∈ ws ∨ h0.size ≤ a) : Rs s m Z EL own h0 ws vm0 k0 (locs ++ [⟨a, sl⟩]) h' S := by
  obtain ⟨a1, a2, a3, a4, a5, a6, a7, a8, a9, a10⟩ := r
  have hsz := W.size
  refine ⟨a1, by rw [hsz]; exact a2, a3, a4, a5.trans (CHr.wr W Sa a5.1), a6.app fun y hy => ?_, a7.wr W q, a8, a9, fun x z => ⟨by rw [hsz]; exact (a10 x z).1, Safe.wr W Sa a5.1 (a10 x z).2⟩⟩
  rw [List.mem_singleton.mp hy]
  rcases q with q | q
  · exact a9 _ q
  · exact Nat.le_trans a8.1 q
theorem Rs.sub (r : Rs s m Z EL own h0 ws vm0 k0 locs h S) {S' : List Addr} (q : ∀ x ∈ S', x ∈ S) : Rs s m Z EL own h0 ws vm0 k0 locs h S' := by
  obtain ⟨a1, a2, a3, a4, a5, a6, a7, a8, a9, a10⟩ := r
  exact ⟨a1, a2, a3, a4, a5, a6, a7, a8, a9, fun x z => a10 x (q x z)⟩
theorem Ext.rf (h : Heap) : Ext h h := ⟨Nat.le_refl _, fun _ _ q => q⟩
theorem Ext.tr {h2 : Heap} (E : Ext h h') (F : Ext h' h2) : Ext h h2 := ⟨Nat.le_trans E.1 F.1, fun x c q => F.2 x c (E.2 x c q)⟩
theorem Ext.wr' (E : Ext hB h) {a : Addr} {sl : Nat} {v : Value} (W : Wr h h' a sl v) (q : hB.size ≤ a) : Ext hB h' := by
  have hsz := W.size
  refine ⟨by rw [hsz]; exact E.1, fun x c z => ?_⟩
  obtain ⟨c0, -, -, -, rfl⟩ := W
  have hx := (Array.getElem?_eq_some_iff.mp z).1
  rw [Array.getElem?_setIfInBounds_ne (by omega)]
  exact E.2 x c z
theorem Ext.kp (E : Ext hB h) {vs : List Addr} (K : Keep h h' vs) (q : ∀ x ∈ vs, hB.size ≤ x) : Ext hB h' := by
  refine ⟨Nat.le_trans E.1 K.1, fun x c z => K.2.1 x c (E.2 x c z) fun hm => ?_⟩
  have hx := (Array.getElem?_eq_some_iff.mp z).1
  have := q x hm
  omega
theorem Keep.ext0 (K : Keep h h' []) : Ext h h' := ⟨K.1, fun x c q => K.2.1 x c q nin0⟩
theorem Wk.at (w : Wk p l e R s m args below meth c Z EL own h0 ws T h cells slots S) : At T m c below := by obtain ⟨_, _, _, -, X, -⟩ := w; exact X.here
theorem Wk.hx (w : Wk p l e R s m args below meth c Z EL own h0 ws T h cells slots S) : p.tables.exec = Jvm.exec := by obtain ⟨_, _, _, q, -⟩ := w; exact q
theorem Wk.keep (w : Wk p l e R s m args below meth c Z EL own h0 ws T h cells slots S) : Keep h0 h ws := by obtain ⟨_, _, _, -, -, -, r⟩ := w; exact r.keep
theorem Rs.old (r : Rs s m Z EL own h0 ws vm0 k0 locs h S) : Ext Z.heap h := Ext.kp r.2.2.2.2.2.2.2.1 r.keep r.2.2.2.2.2.2.2.2.1
theorem Wk.old (w : Wk p l e R s m args below meth c Z EL own h0 ws T h cells slots S) : Ext Z.heap h := by obtain ⟨_, _, _, -, -, -, r⟩ := w; exact r.old
theorem Wk.mono (w : Wk p l e R s m args below meth c Z EL own h0 ws T h cells slots S) {cells' slots' : Nat} (q1 : cells ≤ cells') (q2 : slots ≤ slots') : Wk p l e R s m args below meth c Z EL own h0 ws T h cells' slots' S := by
  obtain ⟨vm0, k0, locs, hx, X, r⟩ := w
  exact ⟨vm0, k0, locs, hx, X.mono q1 q2, r⟩
theorem Wk.sub (w : Wk p l e R s m args below meth c Z EL own h0 ws T h cells slots S) {S' : List Addr} (q : ∀ x ∈ S', x ∈ S) : Wk p l e R s m args below meth c Z EL own h0 ws T h cells slots S' := by
  obtain ⟨vm0, k0, locs, hx, X, eT, r⟩ := w
  exact ⟨vm0, k0, locs, hx, X, eT, r.sub q⟩
theorem s_iadd (w : Wk p l e R s m args below meth c Z EL own h0 ws T h cells slots S) {x y : Int32} (hd : decode c.code pc = .ok (.iadd, 1)) (hp : pc + 1 = pc') (k : Run p e below Q T (mkF m pc' Ls (.int (x + y) :: rest))) : Run p e below Q T (mkF m pc Ls (.int y :: .int x :: rest)) := by
  subst hp; exact Run.to (fun _ q => XS.iadd w.at w.hx rfl hd rfl q) k
theorem s_isub (w : Wk p l e R s m args below meth c Z EL own h0 ws T h cells slots S) {x y : Int32} (hd : decode c.code pc = .ok (.isub, 1)) (hp : pc + 1 = pc') (k : Run p e below Q T (mkF m pc' Ls (.int (x - y) :: rest))) : Run p e below Q T (mkF m pc Ls (.int y :: .int x :: rest)) := by
  subst hp; exact Run.to (fun _ q => XS.isub w.at w.hx rfl hd rfl q) k
theorem s_iand (w : Wk p l e R s m args below meth c Z EL own h0 ws T h cells slots S) {x y : Int32} (hd : decode c.code pc = .ok (.iand, 1)) (hp : pc + 1 = pc') (k : Run p e below Q T (mkF m pc' Ls (.int (x &&& y) :: rest))) : Run p e below Q T (mkF m pc Ls (.int y :: .int x :: rest)) := by
  subst hp; exact Run.to (fun _ q => XS.iand w.at w.hx rfl hd rfl q) k
theorem s_imul (w : Wk p l e R s m args below meth c Z EL own h0 ws T h cells slots S) {x y : Int32} (hd : decode c.code pc = .ok (.imul, 1)) (hp : pc + 1 = pc') (k : Run p e below Q T (mkF m pc' Ls (.int (x * y) :: rest))) : Run p e below Q T (mkF m pc Ls (.int y :: .int x :: rest)) := by
  subst hp; exact Run.to (fun _ q => XS.imul w.at w.hx rfl hd rfl q) k
theorem s_ixor (w : Wk p l e R s m args below meth c Z EL own h0 ws T h cells slots S) {x y : Int32} (hd : decode c.code pc = .ok (.ixor, 1)) (hp : pc + 1 = pc') (k : Run p e below Q T (mkF m pc' Ls (.int (x ^^^ y) :: rest))) : Run p e below Q T (mkF m pc Ls (.int y :: .int x :: rest)) := by
  subst hp; exact Run.to (fun _ q => XT.ixor w.at w.hx rfl hd rfl q) k
theorem s_ior (w : Wk p l e R s m args below meth c Z EL own h0 ws T h cells slots S) {x y : Int32} (hd : decode c.code pc = .ok (.ior, 1)) (hp : pc + 1 = pc') (k : Run p e below Q T (mkF m pc' Ls (.int (x ||| y) :: rest))) : Run p e below Q T (mkF m pc Ls (.int y :: .int x :: rest)) := by
  subst hp; exact Run.to (fun _ q => XT.ior w.at w.hx rfl hd rfl q) k
theorem s_ishl (w : Wk p l e R s m args below meth c Z EL own h0 ws T h cells slots S) {x y : Int32} (hd : decode c.code pc = .ok (.ishl, 1)) (hp : pc + 1 = pc') (k : Run p e below Q T (mkF m pc' Ls (.int (x <<< (y &&& 31)) :: rest))) : Run p e below Q T (mkF m pc Ls (.int y :: .int x :: rest)) := by
  subst hp; exact Run.to (fun _ q => XT.ishl w.at w.hx rfl hd rfl q) k
theorem s_ishr (w : Wk p l e R s m args below meth c Z EL own h0 ws T h cells slots S) {x y : Int32} (hd : decode c.code pc = .ok (.ishr, 1)) (hp : pc + 1 = pc') (k : Run p e below Q T (mkF m pc' Ls (.int (x >>> (y &&& 31)) :: rest))) : Run p e below Q T (mkF m pc Ls (.int y :: .int x :: rest)) := by
  subst hp; exact Run.to (fun _ q => XT.ishr w.at w.hx rfl hd rfl q) k
theorem s_iushr (w : Wk p l e R s m args below meth c Z EL own h0 ws T h cells slots S) {x y : Int32} (hd : decode c.code pc = .ok (.iushr, 1)) (hp : pc + 1 = pc') (k : Run p e below Q T (mkF m pc' Ls (.int (XT.ushr x y) :: rest))) : Run p e below Q T (mkF m pc Ls (.int y :: .int x :: rest)) := by
  subst hp; exact Run.to (fun _ q => XT.iushr w.at w.hx rfl hd rfl q) k
theorem s_irem (w : Wk p l e R s m args below meth c Z EL own h0 ws T h cells slots S) {x y : Int32} (hd : decode c.code pc = .ok (.irem, 1)) (hy : y ≠ 0) (hp : pc + 1 = pc') (k : Run p e below Q T (mkF m pc' Ls (.int (x % y) :: rest))) : Run p e below Q T (mkF m pc Ls (.int y :: .int x :: rest)) := by
  subst hp; obtain ⟨_, _, _, hx, X, -⟩ := w; exact Run.to (fun _ q => iremM X hx rfl hd rfl hy q) k
theorem s_idiv (w : Wk p l e R s m args below meth c Z EL own h0 ws T h cells slots S) {x y : Int32} (hd : decode c.code pc = .ok (.idiv, 1)) (hy : y ≠ 0) (hp : pc + 1 = pc') (k : Run p e below Q T (mkF m pc' Ls (.int (x / y) :: rest))) : Run p e below Q T (mkF m pc Ls (.int y :: .int x :: rest)) := by
  subst hp; exact Run.to (fun _ q => XS.idiv w.at w.hx rfl hd rfl hy q) k
theorem s_ladd (w : Wk p l e R s m args below meth c Z EL own h0 ws T h cells slots S) {x y : Int64} (hd : decode c.code pc = .ok (.ladd, 1)) (hp : pc + 1 = pc') (k : Run p e below Q T (mkF m pc' Ls (.long (x + y) :: rest))) : Run p e below Q T (mkF m pc Ls (.long y :: .long x :: rest)) := by
  subst hp; exact Run.to (fun _ q => XT.ladd w.at w.hx rfl hd rfl q) k
theorem s_lsub (w : Wk p l e R s m args below meth c Z EL own h0 ws T h cells slots S) {x y : Int64} (hd : decode c.code pc = .ok (.lsub, 1)) (hp : pc + 1 = pc') (k : Run p e below Q T (mkF m pc' Ls (.long (x - y) :: rest))) : Run p e below Q T (mkF m pc Ls (.long y :: .long x :: rest)) := by
  subst hp; exact Run.to (fun _ q => XT.lsub w.at w.hx rfl hd rfl q) k
theorem s_lmul (w : Wk p l e R s m args below meth c Z EL own h0 ws T h cells slots S) {x y : Int64} (hd : decode c.code pc = .ok (.lmul, 1)) (hp : pc + 1 = pc') (k : Run p e below Q T (mkF m pc' Ls (.long (x * y) :: rest))) : Run p e below Q T (mkF m pc Ls (.long y :: .long x :: rest)) := by
  subst hp; exact Run.to (fun _ q => XT.lmul w.at w.hx rfl hd rfl q) k
theorem s_land (w : Wk p l e R s m args below meth c Z EL own h0 ws T h cells slots S) {x y : Int64} (hd : decode c.code pc = .ok (.land, 1)) (hp : pc + 1 = pc') (k : Run p e below Q T (mkF m pc' Ls (.long (x &&& y) :: rest))) : Run p e below Q T (mkF m pc Ls (.long y :: .long x :: rest)) := by
  subst hp; exact Run.to (fun _ q => XT.land w.at w.hx rfl hd rfl q) k
theorem s_lor (w : Wk p l e R s m args below meth c Z EL own h0 ws T h cells slots S) {x y : Int64} (hd : decode c.code pc = .ok (.lor, 1)) (hp : pc + 1 = pc') (k : Run p e below Q T (mkF m pc' Ls (.long (x ||| y) :: rest))) : Run p e below Q T (mkF m pc Ls (.long y :: .long x :: rest)) := by
  subst hp; exact Run.to (fun _ q => XT.lor w.at w.hx rfl hd rfl q) k
theorem s_lxor (w : Wk p l e R s m args below meth c Z EL own h0 ws T h cells slots S) {x y : Int64} (hd : decode c.code pc = .ok (.lxor, 1)) (hp : pc + 1 = pc') (k : Run p e below Q T (mkF m pc' Ls (.long (x ^^^ y) :: rest))) : Run p e below Q T (mkF m pc Ls (.long y :: .long x :: rest)) := by
  subst hp; exact Run.to (fun _ q => XT.lxor w.at w.hx rfl hd rfl q) k
theorem s_lshl (w : Wk p l e R s m args below meth c Z EL own h0 ws T h cells slots S) {x : Int64} {y : Int32} (hd : decode c.code pc = .ok (.lshl, 1)) (hp : pc + 1 = pc') (k : Run p e below Q T (mkF m pc' Ls (.long (x <<< (y &&& 0x3f).toInt64) :: rest))) : Run p e below Q T (mkF m pc Ls (.int y :: .long x :: rest)) := by
  subst hp; exact Run.to (fun _ q => XS.lshl w.at w.hx rfl hd rfl q) k
theorem s_lshr (w : Wk p l e R s m args below meth c Z EL own h0 ws T h cells slots S) {x : Int64} {y : Int32} (hd : decode c.code pc = .ok (.lshr, 1)) (hp : pc + 1 = pc') (k : Run p e below Q T (mkF m pc' Ls (.long (x >>> (y &&& 0x3f).toInt64) :: rest))) : Run p e below Q T (mkF m pc Ls (.int y :: .long x :: rest)) := by
  subst hp; exact Run.to (fun _ q => XS.lshr w.at w.hx rfl hd rfl q) k
theorem s_lushr (w : Wk p l e R s m args below meth c Z EL own h0 ws T h cells slots S) {x : Int64} {y : Int32} (hd : decode c.code pc = .ok (.lushr, 1)) (hp : pc + 1 = pc') (k : Run p e below Q T (mkF m pc' Ls (.long (ushJ x y) :: rest))) : Run p e below Q T (mkF m pc Ls (.int y :: .long x :: rest)) := by
  subst hp; exact Run.to (fun _ q => XS.lushr w.at w.hx rfl hd rfl q) k
theorem s_lcmp (w : Wk p l e R s m args below meth c Z EL own h0 ws T h cells slots S) {x y : Int64} (hd : decode c.code pc = .ok (.lcmp, 1)) (hp : pc + 1 = pc') (k : Run p e below Q T (mkF m pc' Ls (.int (XT.cmpL x y) :: rest))) : Run p e below Q T (mkF m pc Ls (.long y :: .long x :: rest)) := by
  subst hp; exact Run.to (fun _ q => XT.lcmp w.at w.hx rfl hd rfl q) k
theorem s_ineg (w : Wk p l e R s m args below meth c Z EL own h0 ws T h cells slots S) {x : Int32} (hd : decode c.code pc = .ok (.ineg, 1)) (hp : pc + 1 = pc') (k : Run p e below Q T (mkF m pc' Ls (.int (-x) :: rest))) : Run p e below Q T (mkF m pc Ls (.int x :: rest)) := by
  subst hp; exact Run.to (fun _ q => XS.ineg w.at w.hx rfl hd rfl q) k
theorem s_i2l (w : Wk p l e R s m args below meth c Z EL own h0 ws T h cells slots S) {x : Int32} (hd : decode c.code pc = .ok (.i2l, 1)) (hp : pc + 1 = pc') (k : Run p e below Q T (mkF m pc' Ls (.long x.toInt64 :: rest))) : Run p e below Q T (mkF m pc Ls (.int x :: rest)) := by
  subst hp; exact Run.to (fun _ q => XT.i2l w.at w.hx rfl hd rfl q) k
theorem s_l2i (w : Wk p l e R s m args below meth c Z EL own h0 ws T h cells slots S) {x : Int64} (hd : decode c.code pc = .ok (.l2i, 1)) (hp : pc + 1 = pc') (k : Run p e below Q T (mkF m pc' Ls (.int x.toInt32 :: rest))) : Run p e below Q T (mkF m pc Ls (.long x :: rest)) := by
  subst hp; exact Run.to (fun _ q => XT.l2i w.at w.hx rfl hd rfl q) k
theorem s_i2b (w : Wk p l e R s m args below meth c Z EL own h0 ws T h cells slots S) {x : Int32} (hd : decode c.code pc = .ok (.i2b, 1)) (hp : pc + 1 = pc') (k : Run p e below Q T (mkF m pc' Ls (.int x.toInt8.toInt32 :: rest))) : Run p e below Q T (mkF m pc Ls (.int x :: rest)) := by
  subst hp; exact Run.to (fun _ q => XT.i2b w.at w.hx rfl hd rfl q) k
theorem s_i2s (w : Wk p l e R s m args below meth c Z EL own h0 ws T h cells slots S) {x : Int32} (hd : decode c.code pc = .ok (.i2s, 1)) (hp : pc + 1 = pc') (k : Run p e below Q T (mkF m pc' Ls (.int x.toInt16.toInt32 :: rest))) : Run p e below Q T (mkF m pc Ls (.int x :: rest)) := by
  subst hp; exact Run.to (fun _ q => XT.i2s w.at w.hx rfl hd rfl q) k
theorem s_i2c (w : Wk p l e R s m args below meth c Z EL own h0 ws T h cells slots S) {x : Int32} (hd : decode c.code pc = .ok (.i2c, 1)) (hp : pc + 1 = pc') (k : Run p e below Q T (mkF m pc' Ls (.int (nar .char x) :: rest))) : Run p e below Q T (mkF m pc Ls (.int x :: rest)) := by
  subst hp; exact Run.to (fun _ q => XT.i2c w.at w.hx rfl hd rfl q) k
theorem s_dup (w : Wk p l e R s m args below meth c Z EL own h0 ws T h cells slots S) {x : Value} (hd : decode c.code pc = .ok (.dup, 1)) (hc : x.category = 1) (hp : pc + 1 = pc') (k : Run p e below Q T (mkF m pc' Ls (x :: x :: rest))) : Run p e below Q T (mkF m pc Ls (x :: rest)) := by
  subst hp; exact Run.to (fun _ q => XS.dup w.at w.hx rfl hd rfl hc q) k
theorem s_pop (w : Wk p l e R s m args below meth c Z EL own h0 ws T h cells slots S) {x : Value} (hd : decode c.code pc = .ok (.pop, 1)) (hc : x.category = 1) (hp : pc + 1 = pc') (k : Run p e below Q T (mkF m pc' Ls rest)) : Run p e below Q T (mkF m pc Ls (x :: rest)) := by
  subst hp; exact Run.to (fun _ q => XT.pop w.at w.hx rfl hd rfl hc q) k
theorem s_dup_x1 (w : Wk p l e R s m args below meth c Z EL own h0 ws T h cells slots S) {x y : Value} (hd : decode c.code pc = .ok (.dup_x1, 1)) (hc : x.category = 1) (hc' : y.category = 1) (hp : pc + 1 = pc') (k : Run p e below Q T (mkF m pc' Ls (x :: y :: x :: rest))) : Run p e below Q T (mkF m pc Ls (x :: y :: rest)) := by
  subst hp; exact Run.to (fun _ q => XT.dupX1 w.at w.hx rfl hd rfl hc hc' q) k
theorem s_dup2 (w : Wk p l e R s m args below meth c Z EL own h0 ws T h cells slots S) {x y : Value} (hd : decode c.code pc = .ok (.dup2, 1)) (hc : x.category = 1) (hc' : y.category = 1) (hp : pc + 1 = pc') (k : Run p e below Q T (mkF m pc' Ls (x :: y :: x :: y :: rest))) : Run p e below Q T (mkF m pc Ls (x :: y :: rest)) := by
  subst hp; exact Run.to (fun _ q => XT.dup2 w.at w.hx rfl hd rfl hc hc' q) k
theorem s_iconst (w : Wk p l e R s m args below meth c Z EL own h0 ws T h cells slots S) {i : Int} {v : Int32} (hd : decode c.code pc = .ok (.iconst i, 1)) (hv : Int32.ofInt i = v) (hp : pc + 1 = pc') (k : Run p e below Q T (mkF m pc' Ls (.int v :: st))) : Run p e below Q T (mkF m pc Ls st) := by
  subst hp hv; exact Run.to (fun _ q => XS.iconst w.at w.hx rfl hd q) k
theorem s_bipush (w : Wk p l e R s m args below meth c Z EL own h0 ws T h cells slots S) {i : Int} {v : Int32} (hd : decode c.code pc = .ok (.bipush i, 2)) (hv : (Int8.ofInt i).toInt32 = v) (hp : pc + 2 = pc') (k : Run p e below Q T (mkF m pc' Ls (.int v :: st))) : Run p e below Q T (mkF m pc Ls st) := by
  subst hp hv; exact Run.to (fun _ q => XS.bipush w.at w.hx rfl hd q) k
theorem s_sipush (w : Wk p l e R s m args below meth c Z EL own h0 ws T h cells slots S) {i : Int} {v : Int32} (hd : decode c.code pc = .ok (.sipush i, 3)) (hv : (Int16.ofInt i).toInt32 = v) (hp : pc + 3 = pc') (k : Run p e below Q T (mkF m pc' Ls (.int v :: st))) : Run p e below Q T (mkF m pc Ls st) := by
  subst hp hv; exact Run.to (fun _ q => XS.sipush w.at w.hx rfl hd q) k
theorem s_lconst (w : Wk p l e R s m args below meth c Z EL own h0 ws T h cells slots S) {i : Fin 2} {v : Int64} (hd : decode c.code pc = .ok (.lconst i, 1)) (hv : Int64.ofNat i = v) (hp : pc + 1 = pc') (k : Run p e below Q T (mkF m pc' Ls (.long v :: st))) : Run p e below Q T (mkF m pc Ls st) := by
  subst hp hv; exact Run.to (fun _ q => XT.lconst w.at w.hx rfl hd q) k
theorem s_anull (w : Wk p l e R s m args below meth c Z EL own h0 ws T h cells slots S) (hd : decode c.code pc = .ok (.aconst_null, 1)) (hp : pc + 1 = pc') (k : Run p e below Q T (mkF m pc' Ls (.null :: st))) : Run p e below Q T (mkF m pc Ls st) := by
  subst hp; exact Run.to (fun _ q => XS.aconstNull w.at w.hx rfl hd q) k
theorem s_iload (w : Wk p l e R s m args below meth c Z EL own h0 ws T h cells slots S) {i : Nat} {v : Int32} (hd : decode c.code pc = .ok (.iload i, 2)) (hl : Ls[i]? = some (.val (.int v))) (hp : pc + 2 = pc') (k : Run p e below Q T (mkF m pc' Ls (.int v :: st))) : Run p e below Q T (mkF m pc Ls st) := by
  subst hp; exact Run.to (fun _ q => XS.iload w.at w.hx rfl hd hl q) k
theorem s_iload_n (w : Wk p l e R s m args below meth c Z EL own h0 ws T h cells slots S) {i : Fin 4} {v : Int32} (hd : decode c.code pc = .ok (.iload_n i, 1)) (hl : Ls[i.val]? = some (.val (.int v))) (hp : pc + 1 = pc') (k : Run p e below Q T (mkF m pc' Ls (.int v :: st))) : Run p e below Q T (mkF m pc Ls st) := by
  subst hp; exact Run.to (fun _ q => XS.iloadN w.at w.hx rfl hd hl q) k
theorem s_lload (w : Wk p l e R s m args below meth c Z EL own h0 ws T h cells slots S) {i : Nat} {v : Int64} (hd : decode c.code pc = .ok (.lload i, 2)) (hl : Ls[i]? = some (.val (.long v))) (hp : pc + 2 = pc') (k : Run p e below Q T (mkF m pc' Ls (.long v :: st))) : Run p e below Q T (mkF m pc Ls st) := by
  subst hp; exact Run.to (fun _ q => XT.lload w.at w.hx rfl hd hl q) k
theorem s_lload_n (w : Wk p l e R s m args below meth c Z EL own h0 ws T h cells slots S) {i : Fin 4} {v : Int64} (hd : decode c.code pc = .ok (.lload_n i, 1)) (hl : Ls[i.val]? = some (.val (.long v))) (hp : pc + 1 = pc') (k : Run p e below Q T (mkF m pc' Ls (.long v :: st))) : Run p e below Q T (mkF m pc Ls st) := by
  subst hp; exact Run.to (fun _ q => XT.lloadN w.at w.hx rfl hd hl q) k
theorem s_aload (w : Wk p l e R s m args below meth c Z EL own h0 ws T h cells slots S) {i : Nat} {v : Value} (hd : decode c.code pc = .ok (.aload i, 2)) (hl : Ls[i]? = some (.val v)) (hv : v.isRef = true) (hp : pc + 2 = pc') (k : Run p e below Q T (mkF m pc' Ls (v :: st))) : Run p e below Q T (mkF m pc Ls st) := by
  subst hp; exact Run.to (fun _ q => XS.aload w.at w.hx rfl hd hl hv q) k
theorem s_aload_n (w : Wk p l e R s m args below meth c Z EL own h0 ws T h cells slots S) {i : Fin 4} {v : Value} (hd : decode c.code pc = .ok (.aload_n i, 1)) (hl : Ls[i.val]? = some (.val v)) (hv : v.isRef = true) (hp : pc + 1 = pc') (k : Run p e below Q T (mkF m pc' Ls (v :: st))) : Run p e below Q T (mkF m pc Ls st) := by
  subst hp; exact Run.to (fun _ q => XS.aloadN w.at w.hx rfl hd hl hv q) k
theorem s_istore (w : Wk p l e R s m args below meth c Z EL own h0 ws T h cells slots S) {i : Nat} {v : Int32} (l' : Array Slot) (hd : decode c.code pc = .ok (.istore i, 2)) (hl : storeLocals Ls i (.int v) = some l') (hp : pc + 2 = pc') (k : Run p e below Q T (mkF m pc' l' st)) : Run p e below Q T (mkF m pc Ls (.int v :: st)) := by
  subst hp; exact Run.to (fun _ q => XS.istore w.at w.hx rfl hd rfl hl q) k
theorem s_istore_n (w : Wk p l e R s m args below meth c Z EL own h0 ws T h cells slots S) {i : Fin 4} {v : Int32} (l' : Array Slot) (hd : decode c.code pc = .ok (.istore_n i, 1)) (hl : storeLocals Ls i.val (.int v) = some l') (hp : pc + 1 = pc') (k : Run p e below Q T (mkF m pc' l' st)) : Run p e below Q T (mkF m pc Ls (.int v :: st)) := by
  subst hp; exact Run.to (fun _ q => XS.istoreN w.at w.hx rfl hd rfl hl q) k
theorem s_lstore (w : Wk p l e R s m args below meth c Z EL own h0 ws T h cells slots S) {i : Nat} {v : Int64} (l' : Array Slot) (hd : decode c.code pc = .ok (.lstore i, 2)) (hl : storeLocals Ls i (.long v) = some l') (hp : pc + 2 = pc') (k : Run p e below Q T (mkF m pc' l' st)) : Run p e below Q T (mkF m pc Ls (.long v :: st)) := by
  subst hp; exact Run.to (fun _ q => XT.lstore w.at w.hx rfl hd rfl hl q) k
theorem s_lstore_n (w : Wk p l e R s m args below meth c Z EL own h0 ws T h cells slots S) {i : Fin 4} {v : Int64} (l' : Array Slot) (hd : decode c.code pc = .ok (.lstore_n i, 1)) (hl : storeLocals Ls i.val (.long v) = some l') (hp : pc + 1 = pc') (k : Run p e below Q T (mkF m pc' l' st)) : Run p e below Q T (mkF m pc Ls (.long v :: st)) := by
  subst hp; exact Run.to (fun _ q => XT.lstoreN w.at w.hx rfl hd rfl hl q) k
theorem s_astore (w : Wk p l e R s m args below meth c Z EL own h0 ws T h cells slots S) {i : Nat} {v : Value} (l' : Array Slot) (hd : decode c.code pc = .ok (.astore i, 2)) (hv : v.isRef = true) (hl : storeLocals Ls i v = some l') (hp : pc + 2 = pc') (k : Run p e below Q T (mkF m pc' l' st)) : Run p e below Q T (mkF m pc Ls (v :: st)) := by
  subst hp; exact Run.to (fun _ q => XS.astore w.at w.hx rfl hd rfl hv hl q) k
theorem s_astore_n (w : Wk p l e R s m args below meth c Z EL own h0 ws T h cells slots S) {i : Fin 4} {v : Value} (l' : Array Slot) (hd : decode c.code pc = .ok (.astore_n i, 1)) (hv : v.isRef = true) (hl : storeLocals Ls i.val v = some l') (hp : pc + 1 = pc') (k : Run p e below Q T (mkF m pc' l' st)) : Run p e below Q T (mkF m pc Ls (v :: st)) := by
  subst hp; exact Run.to (fun _ q => XS.astoreN w.at w.hx rfl hd rfl hv hl q) k
theorem s_iinc (w : Wk p l e R s m args below meth c Z EL own h0 ws T h cells slots S) {i : Nat} {cst : Int} {x v : Int32} (l' : Array Slot) (hd : decode c.code pc = .ok (.iinc i cst, 3)) (hv : Int32.ofInt cst = v) (hl : Ls[i]? = some (.val (.int x))) (hl' : storeLocals Ls i (.int (x + v)) = some l') (hp : pc + 3 = pc') (k : Run p e below Q T (mkF m pc' l' st)) : Run p e below Q T (mkF m pc Ls st) := by
  subst hp; exact Run.to (fun _ q => XT.iincV w.at w.hx rfl v hd hv hl hl' q) k
theorem s_goto (w : Wk p l e R s m args below meth c Z EL own h0 ws T h cells slots S) {o : Int} (hd : decode c.code pc = .ok (.goto o, 3)) (ho : 0 ≤ (pc : Int) + o) (hp : ((pc : Int) + o).toNat = pc') (k : Run p e below Q T (mkF m pc' Ls st)) : Run p e below Q T (mkF m pc Ls st) := by
  exact Run.to (fun _ q => XS.goto w.at w.hx rfl (pc0 := pc) rfl hd ho hp q) k
theorem s_icmp_eq (w : Wk p l e R s m args below meth c Z EL own h0 ws T h cells slots S) {x y : Int32} {o : Int} (hd : decode c.code pc = .ok (.if_icmp .eq o, 3)) (ho : 0 ≤ (pc : Int) + o) (h1 : pc + 3 = pc1) (h2 : ((pc : Int) + o).toNat = pc2) (k1 : ¬ (x = y) → Run p e below Q T (mkF m pc1 Ls rest)) (k2 : x = y → Run p e below Q T (mkF m pc2 Ls rest)) : Run p e below Q T (mkF m pc Ls (.int y :: .int x :: rest)) := by
  subst h1
  by_cases cq : x = y
  · exact Run.to (fun _ q => XS.icmpYes w.at w.hx rfl (pc0 := pc) rfl hd rfl (XT.ii_eq_t cq) ho h2 q) (k2 cq)
  · exact Run.to (fun _ q => XS.icmpNo w.at w.hx rfl hd rfl (XT.ii_eq_f cq) q) (k1 cq)
theorem s_icmp_ne (w : Wk p l e R s m args below meth c Z EL own h0 ws T h cells slots S) {x y : Int32} {o : Int} (hd : decode c.code pc = .ok (.if_icmp .ne o, 3)) (ho : 0 ≤ (pc : Int) + o) (h1 : pc + 3 = pc1) (h2 : ((pc : Int) + o).toNat = pc2) (k1 : x = y → Run p e below Q T (mkF m pc1 Ls rest)) (k2 : ¬ (x = y) → Run p e below Q T (mkF m pc2 Ls rest)) : Run p e below Q T (mkF m pc Ls (.int y :: .int x :: rest)) := by
  subst h1
  by_cases cq : x = y
  · exact Run.to (fun _ q => XS.icmpNo w.at w.hx rfl hd rfl (XT.ii_ne_f cq) q) (k1 cq)
  · exact Run.to (fun _ q => XS.icmpYes w.at w.hx rfl (pc0 := pc) rfl hd rfl (XT.ii_ne_t cq) ho h2 q) (k2 cq)
theorem s_icmp_lt (w : Wk p l e R s m args below meth c Z EL own h0 ws T h cells slots S) {x y : Int32} {o : Int} (hd : decode c.code pc = .ok (.if_icmp .lt o, 3)) (ho : 0 ≤ (pc : Int) + o) (h1 : pc + 3 = pc1) (h2 : ((pc : Int) + o).toNat = pc2) (k1 : ¬ (x < y) → Run p e below Q T (mkF m pc1 Ls rest)) (k2 : x < y → Run p e below Q T (mkF m pc2 Ls rest)) : Run p e below Q T (mkF m pc Ls (.int y :: .int x :: rest)) := by
  subst h1
  by_cases cq : x < y
  · exact Run.to (fun _ q => XS.icmpYes w.at w.hx rfl (pc0 := pc) rfl hd rfl (XT.ii_lt_t cq) ho h2 q) (k2 cq)
  · exact Run.to (fun _ q => XS.icmpNo w.at w.hx rfl hd rfl (XT.ii_lt_f cq) q) (k1 cq)
theorem s_icmp_ge (w : Wk p l e R s m args below meth c Z EL own h0 ws T h cells slots S) {x y : Int32} {o : Int} (hd : decode c.code pc = .ok (.if_icmp .ge o, 3)) (ho : 0 ≤ (pc : Int) + o) (h1 : pc + 3 = pc1) (h2 : ((pc : Int) + o).toNat = pc2) (k1 : x < y → Run p e below Q T (mkF m pc1 Ls rest)) (k2 : ¬ (x < y) → Run p e below Q T (mkF m pc2 Ls rest)) : Run p e below Q T (mkF m pc Ls (.int y :: .int x :: rest)) := by
  subst h1
  by_cases cq : x < y
  · exact Run.to (fun _ q => XS.icmpNo w.at w.hx rfl hd rfl (XT.ii_ge_f cq) q) (k1 cq)
  · exact Run.to (fun _ q => XS.icmpYes w.at w.hx rfl (pc0 := pc) rfl hd rfl (XT.ii_ge_t cq) ho h2 q) (k2 cq)
theorem s_icmp_gt (w : Wk p l e R s m args below meth c Z EL own h0 ws T h cells slots S) {x y : Int32} {o : Int} (hd : decode c.code pc = .ok (.if_icmp .gt o, 3)) (ho : 0 ≤ (pc : Int) + o) (h1 : pc + 3 = pc1) (h2 : ((pc : Int) + o).toNat = pc2) (k1 : ¬ (y < x) → Run p e below Q T (mkF m pc1 Ls rest)) (k2 : y < x → Run p e below Q T (mkF m pc2 Ls rest)) : Run p e below Q T (mkF m pc Ls (.int y :: .int x :: rest)) := by
  subst h1
  by_cases cq : y < x
  · exact Run.to (fun _ q => XS.icmpYes w.at w.hx rfl (pc0 := pc) rfl hd rfl (XT.ii_gt_t cq) ho h2 q) (k2 cq)
  · exact Run.to (fun _ q => XS.icmpNo w.at w.hx rfl hd rfl (XT.ii_gt_f cq) q) (k1 cq)
theorem s_icmp_le (w : Wk p l e R s m args below meth c Z EL own h0 ws T h cells slots S) {x y : Int32} {o : Int} (hd : decode c.code pc = .ok (.if_icmp .le o, 3)) (ho : 0 ≤ (pc : Int) + o) (h1 : pc + 3 = pc1) (h2 : ((pc : Int) + o).toNat = pc2) (k1 : y < x → Run p e below Q T (mkF m pc1 Ls rest)) (k2 : ¬ (y < x) → Run p e below Q T (mkF m pc2 Ls rest)) : Run p e below Q T (mkF m pc Ls (.int y :: .int x :: rest)) := by
  subst h1
  by_cases cq : y < x
  · exact Run.to (fun _ q => XS.icmpNo w.at w.hx rfl hd rfl (XT.ii_le_f cq) q) (k1 cq)
  · exact Run.to (fun _ q => XS.icmpYes w.at w.hx rfl (pc0 := pc) rfl hd rfl (XT.ii_le_t cq) ho h2 q) (k2 cq)
theorem s_if_eq (w : Wk p l e R s m args below meth c Z EL own h0 ws T h cells slots S) {x : Int32} {o : Int} (hd : decode c.code pc = .ok (.ifCond .eq o, 3)) (ho : 0 ≤ (pc : Int) + o) (h1 : pc + 3 = pc1) (h2 : ((pc : Int) + o).toNat = pc2) (k1 : ¬ (x = 0) → Run p e below Q T (mkF m pc1 Ls rest)) (k2 : x = 0 → Run p e below Q T (mkF m pc2 Ls rest)) : Run p e below Q T (mkF m pc Ls (.int x :: rest)) := by
  subst h1
  by_cases cq : x = 0
  · exact Run.to (fun _ q => XS.ifYes w.at w.hx rfl (pc0 := pc) rfl hd rfl (XT.i0_eq_t cq) ho h2 q) (k2 cq)
  · exact Run.to (fun _ q => XS.ifNo w.at w.hx rfl hd rfl (XT.i0_eq_f cq) q) (k1 cq)
theorem s_if_ne (w : Wk p l e R s m args below meth c Z EL own h0 ws T h cells slots S) {x : Int32} {o : Int} (hd : decode c.code pc = .ok (.ifCond .ne o, 3)) (ho : 0 ≤ (pc : Int) + o) (h1 : pc + 3 = pc1) (h2 : ((pc : Int) + o).toNat = pc2) (k1 : x = 0 → Run p e below Q T (mkF m pc1 Ls rest)) (k2 : ¬ (x = 0) → Run p e below Q T (mkF m pc2 Ls rest)) : Run p e below Q T (mkF m pc Ls (.int x :: rest)) := by
  subst h1
  by_cases cq : x = 0
  · exact Run.to (fun _ q => XS.ifNo w.at w.hx rfl hd rfl (XT.i0_ne_f cq) q) (k1 cq)
  · exact Run.to (fun _ q => XS.ifYes w.at w.hx rfl (pc0 := pc) rfl hd rfl (XT.i0_ne_t cq) ho h2 q) (k2 cq)
theorem s_if_lt (w : Wk p l e R s m args below meth c Z EL own h0 ws T h cells slots S) {x : Int32} {o : Int} (hd : decode c.code pc = .ok (.ifCond .lt o, 3)) (ho : 0 ≤ (pc : Int) + o) (h1 : pc + 3 = pc1) (h2 : ((pc : Int) + o).toNat = pc2) (k1 : ¬ (x < 0) → Run p e below Q T (mkF m pc1 Ls rest)) (k2 : x < 0 → Run p e below Q T (mkF m pc2 Ls rest)) : Run p e below Q T (mkF m pc Ls (.int x :: rest)) := by
  subst h1
  by_cases cq : x < 0
  · exact Run.to (fun _ q => XS.ifYes w.at w.hx rfl (pc0 := pc) rfl hd rfl (XT.i0_lt_t cq) ho h2 q) (k2 cq)
  · exact Run.to (fun _ q => XS.ifNo w.at w.hx rfl hd rfl (XT.i0_lt_f cq) q) (k1 cq)
theorem s_if_ge (w : Wk p l e R s m args below meth c Z EL own h0 ws T h cells slots S) {x : Int32} {o : Int} (hd : decode c.code pc = .ok (.ifCond .ge o, 3)) (ho : 0 ≤ (pc : Int) + o) (h1 : pc + 3 = pc1) (h2 : ((pc : Int) + o).toNat = pc2) (k1 : x < 0 → Run p e below Q T (mkF m pc1 Ls rest)) (k2 : ¬ (x < 0) → Run p e below Q T (mkF m pc2 Ls rest)) : Run p e below Q T (mkF m pc Ls (.int x :: rest)) := by
  subst h1
  by_cases cq : x < 0
  · exact Run.to (fun _ q => XS.ifNo w.at w.hx rfl hd rfl (XT.i0_ge_f cq) q) (k1 cq)
  · exact Run.to (fun _ q => XS.ifYes w.at w.hx rfl (pc0 := pc) rfl hd rfl (XT.i0_ge_t cq) ho h2 q) (k2 cq)
theorem s_if_gt (w : Wk p l e R s m args below meth c Z EL own h0 ws T h cells slots S) {x : Int32} {o : Int} (hd : decode c.code pc = .ok (.ifCond .gt o, 3)) (ho : 0 ≤ (pc : Int) + o) (h1 : pc + 3 = pc1) (h2 : ((pc : Int) + o).toNat = pc2) (k1 : ¬ (0 < x) → Run p e below Q T (mkF m pc1 Ls rest)) (k2 : 0 < x → Run p e below Q T (mkF m pc2 Ls rest)) : Run p e below Q T (mkF m pc Ls (.int x :: rest)) := by
  subst h1
  by_cases cq : 0 < x
  · exact Run.to (fun _ q => XS.ifYes w.at w.hx rfl (pc0 := pc) rfl hd rfl (XT.i0_gt_t cq) ho h2 q) (k2 cq)
  · exact Run.to (fun _ q => XS.ifNo w.at w.hx rfl hd rfl (XT.i0_gt_f cq) q) (k1 cq)
theorem s_if_le (w : Wk p l e R s m args below meth c Z EL own h0 ws T h cells slots S) {x : Int32} {o : Int} (hd : decode c.code pc = .ok (.ifCond .le o, 3)) (ho : 0 ≤ (pc : Int) + o) (h1 : pc + 3 = pc1) (h2 : ((pc : Int) + o).toNat = pc2) (k1 : 0 < x → Run p e below Q T (mkF m pc1 Ls rest)) (k2 : ¬ (0 < x) → Run p e below Q T (mkF m pc2 Ls rest)) : Run p e below Q T (mkF m pc Ls (.int x :: rest)) := by
  subst h1
  by_cases cq : 0 < x
  · exact Run.to (fun _ q => XS.ifNo w.at w.hx rfl hd rfl (XT.i0_le_f cq) q) (k1 cq)
  · exact Run.to (fun _ q => XS.ifYes w.at w.hx rfl (pc0 := pc) rfl hd rfl (XT.i0_le_t cq) ho h2 q) (k2 cq)
theorem s_lif_eq (w : Wk p l e R s m args below meth c Z EL own h0 ws T h cells slots S) {x y : Int64} {o : Int} (hd : decode c.code pc = .ok (.ifCond .eq o, 3)) (ho : 0 ≤ (pc : Int) + o) (h1 : pc + 3 = pc1) (h2 : ((pc : Int) + o).toNat = pc2) (k1 : ¬ (x = y) → Run p e below Q T (mkF m pc1 Ls rest)) (k2 : x = y → Run p e below Q T (mkF m pc2 Ls rest)) : Run p e below Q T (mkF m pc Ls (.int (XT.cmpL x y) :: rest)) := by
  subst h1
  by_cases cq : x = y
  · exact Run.to (fun _ q => XS.ifYes w.at w.hx rfl (pc0 := pc) rfl hd rfl (XT.ll_eq_t cq) ho h2 q) (k2 cq)
  · exact Run.to (fun _ q => XS.ifNo w.at w.hx rfl hd rfl (XT.ll_eq_f cq) q) (k1 cq)
theorem s_lif_ne (w : Wk p l e R s m args below meth c Z EL own h0 ws T h cells slots S) {x y : Int64} {o : Int} (hd : decode c.code pc = .ok (.ifCond .ne o, 3)) (ho : 0 ≤ (pc : Int) + o) (h1 : pc + 3 = pc1) (h2 : ((pc : Int) + o).toNat = pc2) (k1 : x = y → Run p e below Q T (mkF m pc1 Ls rest)) (k2 : ¬ (x = y) → Run p e below Q T (mkF m pc2 Ls rest)) : Run p e below Q T (mkF m pc Ls (.int (XT.cmpL x y) :: rest)) := by
  subst h1
  by_cases cq : x = y
  · exact Run.to (fun _ q => XS.ifNo w.at w.hx rfl hd rfl (XT.ll_ne_f cq) q) (k1 cq)
  · exact Run.to (fun _ q => XS.ifYes w.at w.hx rfl (pc0 := pc) rfl hd rfl (XT.ll_ne_t cq) ho h2 q) (k2 cq)
theorem s_lif_lt (w : Wk p l e R s m args below meth c Z EL own h0 ws T h cells slots S) {x y : Int64} {o : Int} (hd : decode c.code pc = .ok (.ifCond .lt o, 3)) (ho : 0 ≤ (pc : Int) + o) (h1 : pc + 3 = pc1) (h2 : ((pc : Int) + o).toNat = pc2) (k1 : ¬ (x < y) → Run p e below Q T (mkF m pc1 Ls rest)) (k2 : x < y → Run p e below Q T (mkF m pc2 Ls rest)) : Run p e below Q T (mkF m pc Ls (.int (XT.cmpL x y) :: rest)) := by
  subst h1
  by_cases cq : x < y
  · exact Run.to (fun _ q => XS.ifYes w.at w.hx rfl (pc0 := pc) rfl hd rfl (XT.ll_lt_t cq) ho h2 q) (k2 cq)
  · exact Run.to (fun _ q => XS.ifNo w.at w.hx rfl hd rfl (XT.ll_lt_f cq) q) (k1 cq)
theorem s_lif_ge (w : Wk p l e R s m args below meth c Z EL own h0 ws T h cells slots S) {x y : Int64} {o : Int} (hd : decode c.code pc = .ok (.ifCond .ge o, 3)) (ho : 0 ≤ (pc : Int) + o) (h1 : pc + 3 = pc1) (h2 : ((pc : Int) + o).toNat = pc2) (k1 : x < y → Run p e below Q T (mkF m pc1 Ls rest)) (k2 : ¬ (x < y) → Run p e below Q T (mkF m pc2 Ls rest)) : Run p e below Q T (mkF m pc Ls (.int (XT.cmpL x y) :: rest)) := by
  subst h1
  by_cases cq : x < y
  · exact Run.to (fun _ q => XS.ifNo w.at w.hx rfl hd rfl (XT.ll_ge_f cq) q) (k1 cq)
  · exact Run.to (fun _ q => XS.ifYes w.at w.hx rfl (pc0 := pc) rfl hd rfl (XT.ll_ge_t cq) ho h2 q) (k2 cq)
theorem s_lif_gt (w : Wk p l e R s m args below meth c Z EL own h0 ws T h cells slots S) {x y : Int64} {o : Int} (hd : decode c.code pc = .ok (.ifCond .gt o, 3)) (ho : 0 ≤ (pc : Int) + o) (h1 : pc + 3 = pc1) (h2 : ((pc : Int) + o).toNat = pc2) (k1 : ¬ (y < x) → Run p e below Q T (mkF m pc1 Ls rest)) (k2 : y < x → Run p e below Q T (mkF m pc2 Ls rest)) : Run p e below Q T (mkF m pc Ls (.int (XT.cmpL x y) :: rest)) := by
  subst h1
  by_cases cq : y < x
  · exact Run.to (fun _ q => XS.ifYes w.at w.hx rfl (pc0 := pc) rfl hd rfl (XT.ll_gt_t cq) ho h2 q) (k2 cq)
  · exact Run.to (fun _ q => XS.ifNo w.at w.hx rfl hd rfl (XT.ll_gt_f cq) q) (k1 cq)
theorem s_lif_le (w : Wk p l e R s m args below meth c Z EL own h0 ws T h cells slots S) {x y : Int64} {o : Int} (hd : decode c.code pc = .ok (.ifCond .le o, 3)) (ho : 0 ≤ (pc : Int) + o) (h1 : pc + 3 = pc1) (h2 : ((pc : Int) + o).toNat = pc2) (k1 : y < x → Run p e below Q T (mkF m pc1 Ls rest)) (k2 : ¬ (y < x) → Run p e below Q T (mkF m pc2 Ls rest)) : Run p e below Q T (mkF m pc Ls (.int (XT.cmpL x y) :: rest)) := by
  subst h1
  by_cases cq : y < x
  · exact Run.to (fun _ q => XS.ifNo w.at w.hx rfl hd rfl (XT.ll_le_f cq) q) (k1 cq)
  · exact Run.to (fun _ q => XS.ifYes w.at w.hx rfl (pc0 := pc) rfl hd rfl (XT.ll_le_t cq) ho h2 q) (k2 cq)
theorem s_acmp_eq (w : Wk p l e R s m args below meth c Z EL own h0 ws T h cells slots S) {x y : Value} {o : Int} (hd : decode c.code pc = .ok (.if_acmp .eq o, 3)) (hx' : x.isRef = true) (hy' : y.isRef = true) (ho : 0 ≤ (pc : Int) + o) (h1 : pc + 3 = pc1) (h2 : ((pc : Int) + o).toNat = pc2) (k1 : ¬ (x = y) → Run p e below Q T (mkF m pc1 Ls rest)) (k2 : x = y → Run p e below Q T (mkF m pc2 Ls rest)) : Run p e below Q T (mkF m pc Ls (y :: x :: rest)) := by
  subst h1
  by_cases cq : x = y
  · exact Run.to (fun _ q => XT.acmpYes w.at w.hx rfl (pc0 := pc) rfl hd rfl hx' hy' (XT.aa_eq_t cq) ho h2 q) (k2 cq)
  · exact Run.to (fun _ q => XT.acmpNo w.at w.hx rfl hd rfl hx' hy' (XT.aa_eq_f cq) q) (k1 cq)
theorem s_acmp_ne (w : Wk p l e R s m args below meth c Z EL own h0 ws T h cells slots S) {x y : Value} {o : Int} (hd : decode c.code pc = .ok (.if_acmp .ne o, 3)) (hx' : x.isRef = true) (hy' : y.isRef = true) (ho : 0 ≤ (pc : Int) + o) (h1 : pc + 3 = pc1) (h2 : ((pc : Int) + o).toNat = pc2) (k1 : x = y → Run p e below Q T (mkF m pc1 Ls rest)) (k2 : ¬ (x = y) → Run p e below Q T (mkF m pc2 Ls rest)) : Run p e below Q T (mkF m pc Ls (y :: x :: rest)) := by
  subst h1
  by_cases cq : x = y
  · exact Run.to (fun _ q => XT.acmpNo w.at w.hx rfl hd rfl hx' hy' (XT.aa_ne_f cq) q) (k1 cq)
  · exact Run.to (fun _ q => XT.acmpYes w.at w.hx rfl (pc0 := pc) rfl hd rfl hx' hy' (XT.aa_ne_t cq) ho h2 q) (k2 cq)
theorem s_ifnull_no (w : Wk p l e R s m args below meth c Z EL own h0 ws T h cells slots S) {b : Addr} {o : Int} (hd : decode c.code pc = .ok (.ifnull o, 3)) (hp : pc + 3 = pc') (k : Run p e below Q T (mkF m pc' Ls rest)) : Run p e below Q T (mkF m pc Ls (.ref b :: rest)) := by
  subst hp; exact Run.to (fun _ q => XS.ifnullNo w.at w.hx rfl hd rfl q) k
theorem s_ifnull_yes (w : Wk p l e R s m args below meth c Z EL own h0 ws T h cells slots S) {o : Int} (hd : decode c.code pc = .ok (.ifnull o, 3)) (ho : 0 ≤ (pc : Int) + o) (hp : ((pc : Int) + o).toNat = pc') (k : Run p e below Q T (mkF m pc' Ls rest)) : Run p e below Q T (mkF m pc Ls (.null :: rest)) :=
  Run.to (fun _ q => XS.ifnullYes w.at w.hx rfl (pc0 := pc) rfl hd rfl ho hp q) k
theorem s_ifnonnull_yes (w : Wk p l e R s m args below meth c Z EL own h0 ws T h cells slots S) {b : Addr} {o : Int} (hd : decode c.code pc = .ok (.ifnonnull o, 3)) (ho : 0 ≤ (pc : Int) + o) (hp : ((pc : Int) + o).toNat = pc') (k : Run p e below Q T (mkF m pc' Ls rest)) : Run p e below Q T (mkF m pc Ls (.ref b :: rest)) :=
  Run.to (fun _ q => XT.ifnonnullYes w.at w.hx rfl (pc0 := pc) rfl hd rfl ho hp q) k
theorem s_ifnonnull_no (w : Wk p l e R s m args below meth c Z EL own h0 ws T h cells slots S) {o : Int} (hd : decode c.code pc = .ok (.ifnonnull o, 3)) (hp : pc + 3 = pc') (k : Run p e below Q T (mkF m pc' Ls rest)) : Run p e below Q T (mkF m pc Ls (.null :: rest)) := by
  subst hp; exact Run.to (fun _ q => XT.ifnonnullNo w.at w.hx rfl hd rfl q) k


/-! steps that read the tables or the heap -/
theorem w_getF (w : Wk p l e R s m args below meth c Z EL own h0 ws T h cells slots S) {R0 O n d : String} {index : Nat} (wl : (Jvm.Cond.fieldLink own index R0 n d).before a0 Z = true) (via : Via Z R0 O n d) {a : Addr} {v : Value} (F : Fld Z h a O n d v) (hd : decode c.code pc = .ok (.getfield index, 3)) (hp : pc + 3 = pc')
    (k : ∀ T', Wk p l e R s m args below meth c Z EL own h0 ws T' h cells slots S → Run p e below Q T' (mkF m pc' Ls (v :: rest))) : Run p e below Q T (mkF m pc Ls (.ref a :: rest)) := by
  obtain ⟨vm0, k0, locs, hx, X, eT, r⟩ := w
  obtain ⟨T', X', e', stp⟩ := getF X hx r.hZ (host := "") r.ow (Or.inl wl) via eT F (g := mkF m pc Ls (.ref a :: rest)) rfl rfl hd
  subst hp
  exact Run.to stp (k T' ⟨vm0, k0, locs, hx, X', e', r⟩)
theorem w_getS (w : Wk p l e R s m args below meth c Z EL own h0 ws T h cells slots S) {R0 O n d : String} {index : Nat} (wl : (Jvm.Cond.fieldLink own index R0 n d).before a0 Z = true) (via : Via Z R0 O n d) {v : Value} (F : Sta Z h O n d v) (hd : decode c.code pc = .ok (.getstatic index, 3)) (hp : pc + 3 = pc')
    (k : ∀ T', Wk p l e R s m args below meth c Z EL own h0 ws T' h cells slots S → Run p e below Q T' (mkF m pc' Ls (v :: st))) : Run p e below Q T (mkF m pc Ls st) := by
  obtain ⟨vm0, k0, locs, hx, X, eT, r⟩ := w
  obtain ⟨T', X', e', stp⟩ := getS (host := "") X hx r.hZ r.ow wl via eT F (g := mkF m pc Ls st) rfl hd
  subst hp
  exact Run.to stp (k T' ⟨vm0, k0, locs, hx, X', e', r⟩)
theorem w_cast (w : Wk p l e R s m args below meth c Z EL own h0 ws T h cells slots S) {K : String} {index : Nat} (wl : (Jvm.Cond.classLink own index K).before a0 Z = true) {a : Addr} (F : Ins Z h a K true) (hd : decode c.code pc = .ok (.checkcast index, 3)) (hp : pc + 3 = pc')
    (k : ∀ T', Wk p l e R s m args below meth c Z EL own h0 ws T' h cells slots S → Run p e below Q T' (mkF m pc' Ls (.ref a :: rest))) : Run p e below Q T (mkF m pc Ls (.ref a :: rest)) := by
  obtain ⟨vm0, k0, locs, hx, X, eT, r⟩ := w
  obtain ⟨T', X', e', stp⟩ := castY X hx r.hZ r.ow wl eT F (g := mkF m pc Ls (.ref a :: rest)) rfl rfl hd
  subst hp
  exact Run.to stp (k T' ⟨vm0, k0, locs, hx, X', e', r⟩)
theorem w_inst (w : Wk p l e R s m args below meth c Z EL own h0 ws T h cells slots S) {K : String} {index : Nat} (wl : (Jvm.Cond.classLink own index K).before a0 Z = true) {a : Addr} (F : Ins Z h a K true) (hd : decode c.code pc = .ok (.instanceof index, 3)) (hp : pc + 3 = pc')
    (k : ∀ T', Wk p l e R s m args below meth c Z EL own h0 ws T' h cells slots S → Run p e below Q T' (mkF m pc' Ls (.int 1 :: rest))) : Run p e below Q T (mkF m pc Ls (.ref a :: rest)) := by
  obtain ⟨vm0, k0, locs, hx, X, eT, r⟩ := w
  obtain ⟨T', X', e', stp⟩ := instY X hx r.hZ r.ow wl eT F (g := mkF m pc Ls (.ref a :: rest)) rfl rfl hd
  subst hp
  exact Run.to stp (k T' ⟨vm0, k0, locs, hx, X', e', r⟩)
theorem w_instNo (w : Wk p l e R s m args below meth c Z EL own h0 ws T h cells slots S) {K C : String} {index : Nat} (wl : (Jvm.Cond.classLink own index K).before a0 Z = true) {a : Addr} (E : Exa Z h a C) (F : ∃ c t, Z.vm.findClass C = some c ∧ Z.vm.findClass K = some t ∧ Z.vm.assignable c t = false) (hd : decode c.code pc = .ok (.instanceof index, 3)) (hp : pc + 3 = pc')
    (k : ∀ T', Wk p l e R s m args below meth c Z EL own h0 ws T' h cells slots S → Run p e below Q T' (mkF m pc' Ls (.int 0 :: rest))) : Run p e below Q T (mkF m pc Ls (.ref a :: rest)) := by
  obtain ⟨vm0, k0, locs, hx, X, eT, r⟩ := w
  obtain ⟨T', X', e', stp⟩ := instNo X hx r.hZ r.ow wl eT E F (g := mkF m pc Ls (.ref a :: rest)) rfl rfl hd
  subst hp
  exact Run.to stp (k T' ⟨vm0, k0, locs, hx, X', e', r⟩)
theorem w_instNull (w : Wk p l e R s m args below meth c Z EL own h0 ws T h cells slots S) {index : Nat} (hd : decode c.code pc = .ok (.instanceof index, 3)) (hp : pc + 3 = pc') (k : Run p e below Q T (mkF m pc' Ls (.int 0 :: rest))) : Run p e below Q T (mkF m pc Ls (.null :: rest)) := by
  obtain ⟨vm0, k0, locs, hx, X, eT, r⟩ := w
  subst hp
  exact Run.to (X.instanceofNull hx (g := mkF m pc Ls (.null :: rest)) rfl rfl hd) k
theorem w_castNull (w : Wk p l e R s m args below meth c Z EL own h0 ws T h cells slots S) {index : Nat} (hd : decode c.code pc = .ok (.checkcast index, 3)) (hp : pc + 3 = pc') (k : Run p e below Q T (mkF m pc' Ls (.null :: rest))) : Run p e below Q T (mkF m pc Ls (.null :: rest)) := by
  obtain ⟨vm0, k0, locs, hx, X, eT, r⟩ := w
  subst hp
  exact Run.to (X.checkcastNull hx (g := mkF m pc Ls (.null :: rest)) rfl rfl hd) k
theorem w_new (w : Wk p l e R s m args below meth c Z EL own h0 ws T h cells slots S) {C : String} {index n : Nat} (wl : (Jvm.Cond.classLink own index C).before a0 Z = true) (wi : (Jvm.Cond.instantiable C n).before a0 Z = true) (wz : (Jvm.Cond.initialized C).before a0 Z = true) (hd : decode c.code pc = .ok (.new index, 3)) (hp : pc + 3 = pc') (hc : cells + 1 ≤ R.cells) (hl : slots + n ≤ R.slots)
    (k : ∀ T' h' x, Wk p l e R s m args below meth c Z EL own h0 ws T' h' (cells + 1) (slots + n) (x :: S) → Ext h h' → h.size ≤ x → h0.size ≤ x → Exa Z h' x C → (∀ {O nm d : String} {ty : FieldType}, Laid Z a0 C O nm d → parseFieldDescriptor d = some ty → Fld Z h' x O nm d (defaultValue ty)) → Run p e below Q T' (mkF m pc' Ls (.ref x :: st))) : Run p e below Q T (mkF m pc Ls st) := by
  obtain ⟨vm0, k0, locs, hx, X, eT, r⟩ := w
  obtain ⟨T', h', X', e', E, A, D, -, stp⟩ := newO X hx r.hZ r.ow wl wi wz eT (g := mkF m pc Ls st) rfl hd hc hl
  subst hp
  exact Run.to stp (k T' h' h.size ⟨vm0, k0, locs, hx, X', e', r.add E (Nat.le_refl _) A.lt⟩ E (Nat.le_refl _) r.keep.1 A D)
/-- a new array of a primitive kind: its n places hold their first value -/
theorem w_newP (w : Wk p l e R s m args below meth c Z EL own h0 ws T h cells slots S) {aty : ArrayType} {ty : FieldType} {z : Int32} {n : Nat} {dv : Value} (wl : (Jvm.Cond.arrayClass ty).before a0 Z = true) (hty : newarray.typeOf aty = ty) (hdv : defaultValue ty = dv) (hd : decode c.code pc = .ok (.newarray aty, 2)) (hz : ¬ z < 0) (hn : z.toNatClampNeg ≤ n) (hb : n * 8 ≤ 536870912) (hp : pc + 2 = pc') (hc : cells + 1 ≤ R.cells) (hl : slots + n ≤ R.slots)
    (k : ∀ T' h' x ka, Wk p l e R s m args below meth c Z EL own h0 ws T' h' (cells + 1) (slots + n) (x :: S) → Ext h h' → h.size ≤ x → h0.size ≤ x → Arv Z h' x ka ty z (List.replicate n dv) dv → Run p e below Q T' (mkF m pc' Ls (.ref x :: rest))) : Run p e below Q T (mkF m pc Ls (.int z :: rest)) := by
  obtain ⟨vm0, k0, locs, hx, X, eT, r⟩ := w
  subst hty hdv hp
  obtain ⟨T', h', kA, X', e', E, A, stp⟩ := newP X hx r.hZ wl eT (g := mkF m pc Ls (.int z :: rest)) rfl hd rfl hz hn hb hc hl
  have V := (Arv.new A hz).pad (pad_rep [] _ n)
  exact Run.to stp (k T' h' h.size kA ⟨vm0, k0, locs, hx, X', e', r.add E (Nat.le_refl _) A.lt⟩ E (Nat.le_refl _) r.keep.1 V)
theorem w_stC (w : Wk p l e R s m args below meth c Z EL own h0 ws T h cells slots S) {a : Addr} {ka : ClassId} {z j x x' : Int32} {vs : List Value} {dv : Value} (V : Arv Z h a ka .char z vs dv) {i : Nat} (hj : ¬ j < 0) (hi : j.toNatClampNeg = i) (hiz : i < z.toNatClampNeg) (hiv : i < vs.length) (hx' : nar .char x = x') (hd : decode c.code pc = .ok (.castore, 1)) (q : a ∈ ws ∨ h0.size ≤ a) (hp : pc + 1 = pc')
    (k : ∀ T' h', Wk p l e R s m args below meth c Z EL own h0 ws T' h' cells slots S → Wr h h' a i (.int x') → Arv Z h' a ka .char z (vs.set i (.int x')) dv → Run p e below Q T' (mkF m pc' Ls rest)) : Run p e below Q T (mkF m pc Ls (.int x :: .int j :: .ref a :: rest)) := by
  obtain ⟨vm0, k0, locs, hx, X, eT, r⟩ := w
  obtain ⟨cl, A, q1, q2, q3, q4, q5⟩ := V
  have hin : ¬ (j < 0 ∨ cl.slots.size ≤ j.toNatClampNeg) := by rw [q2, hi]; rintro (z | z); exact hj z; omega
  obtain ⟨T', h', X', e', Wq, stp⟩ := stC X hx r.hZ eT A hin (g := mkF m pc Ls (.int x :: .int j :: .ref a :: rest)) rfl rfl hd
  subst hp hx'
  have V' := Arv.set A q1 q2 q3 q4 q5 (fits_nar_char x) Wq i hi hiv
  rw [hi] at Wq
  have r' := r.wr Wq (Safe.arr r.hZ.alike A (by decide)) q
  rw [hi] at X'
  exact Run.to stp (k T' h' ⟨vm0, k0, _, hx, X', e', r'⟩ Wq V')
theorem w_stB (w : Wk p l e R s m args below meth c Z EL own h0 ws T h cells slots S) {a : Addr} {ka : ClassId} {z j x x' : Int32} {vs : List Value} {dv : Value} (V : Arv Z h a ka .byte z vs dv) {i : Nat} (hj : ¬ j < 0) (hi : j.toNatClampNeg = i) (hiz : i < z.toNatClampNeg) (hiv : i < vs.length) (hx' : nar .byte x = x') (hd : decode c.code pc = .ok (.bastore, 1)) (q : a ∈ ws ∨ h0.size ≤ a) (hS : a ∈ S) (hp : pc + 1 = pc')
    (k : ∀ T' h', Wk p l e R s m args below meth c Z EL own h0 ws T' h' cells slots S → Wr h h' a i (.int x') → Arv Z h' a ka .byte z (vs.set i (.int x')) dv → Run p e below Q T' (mkF m pc' Ls rest)) : Run p e below Q T (mkF m pc Ls (.int x :: .int j :: .ref a :: rest)) := by
  obtain ⟨vm0, k0, locs, hx, X, eT, r⟩ := w
  obtain ⟨cl, A, q1, q2, q3, q4, q5⟩ := V
  have hin : ¬ (j < 0 ∨ cl.slots.size ≤ j.toNatClampNeg) := by rw [q2, hi]; rintro (z | z); exact hj z; omega
  obtain ⟨T', h', X', e', Wq, stp⟩ := stB X hx r.hZ eT A hin (g := mkF m pc Ls (.int x :: .int j :: .ref a :: rest)) rfl rfl hd
  subst hp hx'
  have V' := Arv.set A q1 q2 q3 q4 q5 (fits_nar_byte x) Wq i hi hiv
  rw [hi] at Wq
  have r' := r.wr Wq (r.2.2.2.2.2.2.2.2.2 a hS).2 q
  rw [hi] at X'
  exact Run.to stp (k T' h' ⟨vm0, k0, _, hx, X', e', r'⟩ Wq V')
theorem w_len (w : Wk p l e R s m args below meth c Z EL own h0 ws T h cells slots S) {a : Addr} {ka : ClassId} {ty : FieldType} {z : Int32} {vs : List Value} {dv : Value} (V : Arv Z h a ka ty z vs dv) (hd : decode c.code pc = .ok (.arraylength, 1)) (hp : pc + 1 = pc')
    (k : Run p e below Q T (mkF m pc' Ls (.int z :: rest))) : Run p e below Q T (mkF m pc Ls (.ref a :: rest)) := by
  obtain ⟨vm0, k0, locs, hx, X, eT, r⟩ := w
  obtain ⟨cl, A, q1, q2, q3, q4, q5⟩ := V
  subst hp
  rw [← len_of q2 q3] at k
  exact Run.to (X.arraylength hx (by rw [eT]; exact A.1) (State.isArrayOf_alike r.hZ.alike A.2.1) (g := mkF m pc Ls (.ref a :: rest)) rfl rfl hd) k
theorem w_ldC (w : Wk p l e R s m args below meth c Z EL own h0 ws T h cells slots S) {a : Addr} {ka : ClassId} {z j : Int32} {vs : List Value} {dv v : Value} (V : Arv Z h a ka .char z vs dv) {i : Nat} (hj : ¬ j < 0) (hi : j.toNatClampNeg = i) (hiz : i < z.toNatClampNeg) (hv : vs.getD i dv = v) (hd : decode c.code pc = .ok (.caload, 1)) (hp : pc + 1 = pc')
    (k : Run p e below Q T (mkF m pc' Ls (v :: rest))) : Run p e below Q T (mkF m pc Ls (.int j :: .ref a :: rest)) := by
  obtain ⟨vm0, k0, locs, hx, X, eT, r⟩ := w
  obtain ⟨cl, A, q1, q2, q3, q4, q5⟩ := V
  have hin : ¬ (j < 0 ∨ cl.slots.size ≤ j.toNatClampNeg) := by rw [q2, hi]; rintro (z | z); exact hj z; omega
  subst hp
  exact Run.to (X.caload hx (j := j) (v := v) (by rw [eT]; exact A.1) (State.isArrayOf_alike r.hZ.alike A.2.1) A.2.2 hin (q4.at hin (by rw [hi]; exact hv)) (g := mkF m pc Ls (.int j :: .ref a :: rest)) rfl rfl hd) k
theorem w_ldB (w : Wk p l e R s m args below meth c Z EL own h0 ws T h cells slots S) {a : Addr} {ka : ClassId} {z j : Int32} {vs : List Value} {dv v : Value} (V : Arv Z h a ka .byte z vs dv) {i : Nat} (hj : ¬ j < 0) (hi : j.toNatClampNeg = i) (hiz : i < z.toNatClampNeg) (hv : vs.getD i dv = v) (hd : decode c.code pc = .ok (.baload, 1)) (hp : pc + 1 = pc')
    (k : Run p e below Q T (mkF m pc' Ls (v :: rest))) : Run p e below Q T (mkF m pc Ls (.int j :: .ref a :: rest)) := by
  obtain ⟨vm0, k0, locs, hx, X, eT, r⟩ := w
  obtain ⟨cl, A, q1, q2, q3, q4, q5⟩ := V
  have hin : ¬ (j < 0 ∨ cl.slots.size ≤ j.toNatClampNeg) := by rw [q2, hi]; rintro (z | z); exact hj z; omega
  subst hp
  exact Run.to (X.baloadBytes hx (j := j) (v := v) (by rw [eT]; exact A.1) (State.isArrayOf_alike r.hZ.alike A.2.1) A.2.2 hin (q4.at hin (by rw [hi]; exact hv)) (g := mkF m pc Ls (.int j :: .ref a :: rest)) rfl rfl hd) k
/-- putfield: into an object that no constant books (by its class, or one of S) -/
theorem w_putF (w : Wk p l e R s m args below meth c Z EL own h0 ws T h cells slots S) {R0 O n d C : String} {index kk : Nat} {ty : FieldType} (wl : (Jvm.Cond.fieldLink own index R0 n d).before a0 Z = true) (via : Via Z R0 O n d) {a : Addr} {v old : Value} (F : Fld Z h a O n d old) (E : Exa Z h a C) (L : (Jvm.Cond.lays C O n d).before a0 Z = true ∨ ((Jvm.Cond.laysFinal C O n d).before a0 Z = true ∧ own = O ∧ meth.name = "<init>")) (wi : (Jvm.Cond.instantiable C kk).before a0 Z = true)
    (hty : parseFieldDescriptor d = some ty) (hn : narrow ty v = v) (hf : fits ty v = true) (hd : decode c.code pc = .ok (.putfield index, 3)) (q : a ∈ ws ∨ h0.size ≤ a) (hS : (C ≠ "java/lang/String" ∧ C ≠ "[B") ∨ a ∈ S) (hp : pc + 3 = pc')
    (k : ∀ T' h', Wk p l e R s m args below meth c Z EL own h0 ws T' h' cells slots S → Wr h h' a (Jvm.RoadKit.slotOf Z O n d) v → Fld Z h' a O n d v → Exa Z h' a C → Run p e below Q T' (mkF m pc' Ls rest)) : Run p e below Q T (mkF m pc Ls (v :: .ref a :: rest)) := by
  obtain ⟨vm0, k0, locs, hx, X, eT, r⟩ := w
  obtain ⟨T', h', X', e', Wq, stp⟩ := putF X hx r.hZ (host := "") r.ow (Or.inl wl) via eT F E L wi hty hn hf (g := mkF m pc Ls (v :: .ref a :: rest)) rfl rfl hd
  subst hp
  have Sa : Safe Z EL vm0 h a := by
    rcases hS with hS | hS
    · exact Safe.exa r.hZ.alike E hS.1 hS.2
    · exact (r.2.2.2.2.2.2.2.2.2 a hS).2
  exact Run.to stp (k T' h' ⟨vm0, k0, _, hx, X', e', r.wr Wq Sa q⟩ Wq (F.same Wq) (E.wr Wq))
theorem w_objInit (w : Wk p l e R s m args below meth c Z EL own h0 ws T h cells slots S) {idx : Nat} (w1 : (Jvm.Cond.methodLink own idx Lib.objectInit).before a0 Z = true) (w2 : (Jvm.Cond.instanceMethod Lib.objectInit).before a0 Z = true) (w3 : (Jvm.Cond.code Lib.objectInit ⟨#[0xb1]⟩ 1 none).before a0 Z = true) {a : Addr} (hd : decode c.code pc = .ok (.invokespecial idx, 3)) (hsz : Ls.size = c.maxLocals) (hf : 1 ≤ R.frames) {W : Nat} (hW : (rest.map fun v => v.category).sum ≤ W) (hl : W + 12 ≤ R.locals) (hp : pc + 3 = pc')
    (k : ∀ T', Wk p l e R s m args below meth c Z EL own h0 ws T' h cells slots S → Run p e below Q T' (mkF m pc' Ls rest)) : Run p e below Q T (mkF m pc Ls (.ref a :: rest)) := by
  obtain ⟨vm0, k0, locs, hx, X, eT, r⟩ := w
  obtain ⟨T', X', e', stp⟩ := initO X hx r.hZ r.ow w1 w2 w3 eT (g := mkF m pc Ls (.ref a :: rest)) rfl hsz rfl hd hf (W := W) (by show 2 * 0 + _ ≤ _; omega) hl
  subst hp
  exact Run.to stp (k T' ⟨vm0, k0, locs, hx, X', e', r⟩)
theorem w_ldcI (w : Wk p l e R s m args below meth c Z EL own h0 ws T h cells slots S) {index : Nat} {v : Int32} (wl : (Jvm.Cond.constant own index v).before a0 Z = true) (hd : decode c.code pc = .ok (.ldc index, 2)) (hp : pc + 2 = pc') (k : Run p e below Q T (mkF m pc' Ls (.int v :: st))) : Run p e below Q T (mkF m pc Ls st) := by
  obtain ⟨vm0, k0, locs, hx, X, eT, r⟩ := w
  subst hp
  exact Run.to (fun _ q => X.ldcI hx r.ow (mvT r.hZ wl) (g := mkF m pc Ls st) rfl hd q) k
theorem w_ldcJ (w : Wk p l e R s m args below meth c Z EL own h0 ws T h cells slots S) {index : Nat} {v : Int64} (wl : (Jvm.Cond.constantLong own index v).before a0 Z = true) (hd : decode c.code pc = .ok (.ldc2_w index, 3)) (hp : pc + 3 = pc') (k : Run p e below Q T (mkF m pc' Ls (.long v :: st))) : Run p e below Q T (mkF m pc Ls st) := by
  obtain ⟨vm0, k0, locs, hx, X, eT, r⟩ := w
  subst hp
  exact Run.to (fun _ q => X.ldc2J hx r.ow (mvT r.hZ wl) (g := mkF m pc Ls st) rfl hd q) k
/-- ldc of a String constant that is one of EL: read -/
theorem w_ldcS (w : Wk p l e R s m args below meth c Z EL own h0 ws T h cells slots S) (hEL : EW Z a0 EL) {text : String} {index : Nat} (wl : (Jvm.Cond.stringLink own index text).before a0 Z = true) (wS : ∀ a ∈ Bundle.stringAtoms, a.before a0 Z = true) (hmem : (own, index) ∈ EL) {vs : List Value} {z : Int32} {n : Nat}
    (ht : (∀ c ∈ text.toList, c.toNat < 256) ∧ text.toList.map (fun c => Value.int (Jvm.Lit.byteI c.toNat.toUInt16)) = vs) (hz : ¬ z < 0) (hl : z.toNatClampNeg = vs.length) (hn : 4 * text.toList.length ≤ n) (hbig : n ≤ 536870912) (hd : decode c.code pc = .ok (.ldc index, 2)) (hp : pc + 2 = pc') (hc : cells + 2 ≤ R.cells) (hl' : slots + (n + 4) ≤ R.slots)
    (k : ∀ T' h' x t kb, Wk p l e R s m args below meth c Z EL own h0 ws T' h' (cells + 2) (slots + (n + 4)) S → Ext h h' → Exa Z h' x "java/lang/String" → Fld Z h' x "java/lang/String" "coder" "B" (.int 0) → Fld Z h' x "java/lang/String" "value" "[B" (.ref t) → Arv Z h' t kb .byte z vs (.int 0) → (∀ y ∈ S, y ≠ x ∧ y ≠ t) → Run p e below Q T' (mkF m pc' Ls (.ref x :: st))) : Run p e below Q T (mkF m pc Ls st) := by
  obtain ⟨vm0, k0, locs, hx, X, eT, r⟩ := w
  obtain ⟨x, T', h', k1, t, kb, X', e', E, hS, hk1, hZ', hown', A, C, V, K, -, -, hCH, -, hne, stp⟩ := ldcCH X hx r.hZ r.ow wl wS eT r.1 r.2.1 hEL hmem r.ch ht hz hl (g := mkF m pc Ls st) rfl hd hn hbig hc hl'
  subst hp
  obtain ⟨a1, a2, a3, a4, a5, a6, a7, a8, a9, a10⟩ := r
  have hs : ∀ y ∈ S, y < h'.size ∧ Safe Z EL T'.vm h' y := fun y q => ⟨Nat.lt_of_lt_of_le (a10 y q).1 E.1, hCH.safe (a10 y q).1 (a10 y q).2⟩
  exact Run.to stp (k T' h' x t kb ⟨T'.vm, k1, locs, hx, X', e', hS, hk1, hZ', hown', a5.trans hCH, a6, a7.ext E, a8, a9, hs⟩ E A C V K fun y q => hne y (hs y q).2)
/-- ldc of any String constant: what it pushes is a reference -/
theorem w_ldcO (w : Wk p l e R s m args below meth c Z EL own h0 ws T h cells slots S) (hEL : EW Z a0 EL) {text : String} {index : Nat} (wl : (Jvm.Cond.stringLink own index text).before a0 Z = true) (wS : ∀ a ∈ Bundle.stringAtoms, a.before a0 Z = true) {n : Nat} (hn : 4 * text.toList.length ≤ n) (hbig : n ≤ 536870912) (hd : decode c.code pc = .ok (.ldc index, 2)) (hp : pc + 2 = pc') (hc : cells + 2 ≤ R.cells) (hl' : slots + (n + 4) ≤ R.slots)
    (k : ∀ T' h' x, Wk p l e R s m args below meth c Z EL own h0 ws T' h' (cells + 2) (slots + (n + 4)) S → Ext h h' → Run p e below Q T' (mkF m pc' Ls (.ref x :: st))) : Run p e below Q T (mkF m pc Ls st) := by
  obtain ⟨vm0, k0, locs, hx, X, eT, r⟩ := w
  obtain ⟨x, T', h', k1, X', e', E, hS, hk1, hZ', hown', hCH, -, stp⟩ := ldcOH X hx r.hZ r.ow wl wS eT r.1 r.2.1 hEL r.ch (g := mkF m pc Ls st) rfl hd hn hbig hc hl'
  subst hp
  obtain ⟨a1, a2, a3, a4, a5, a6, a7, a8, a9, a10⟩ := r
  exact Run.to stp (k T' h' x ⟨T'.vm, k1, locs, hx, X', e', hS, hk1, hZ', hown', a5.trans hCH, a6, a7.ext E, a8, a9, fun y q => ⟨Nat.lt_of_lt_of_le (a10 y q).1 E.1, hCH.safe (a10 y q).1 (a10 y q).2⟩⟩ E)
/-! contracts -/
/-- what a body promises at its end -/
def QmN (Z : State) (EL : List (String × Nat)) (s : State) (h0 : Heap) (ws : List Addr) (rm : Room) (P : Option Value → Heap → List Addr → Prop) (o : Outcome) (U' : State) : Prop :=
  ∃ v L, o = .returned v ∧ (Fr Z.heap.size L ∧ Keep h0 U'.heap ws ∧ ∃ N, P v U'.heap N ∧ ∀ x ∈ N, x < U'.heap.size ∧ Safe Z EL U'.vm U'.heap x) ∧ CHr Z EL s.vm s.heap U'.vm U'.heap ∧ ReturnedEndW s o U' L rm.cells rm.slots
def Pm (Z : State) (EL : List (String × Nat)) (as' : Array Value) (h : Heap) (S ws : List Addr) (a : Array Value) (U : State) : Prop := a = as' ∧ Z.Warmed39 U.vm ∧ U.heap = h ∧ CHv Z EL U.vm h ∧ Ext Z.heap h ∧ (∀ x ∈ ws, Z.heap.size ≤ x) ∧ ∀ x ∈ S, x < h.size ∧ Safe Z EL U.vm h x
def MetN (l : Launch) (Z : State) (EL : List (String × Nat)) (y : MethodName) (bytes : ByteArray) (maxL : Nat) (ret : Option FieldType) (rm : Room) (as' : Array Value) (h : Heap) (S ws : List Addr) (P : Option Value → Heap → List Addr → Prop) : Prop :=
  ∀ wl : List Jvm.Cond, MetFree l y (head1 (Jvm.Cond.code y bytes maxL ret :: wl) rm) (Pm Z EL as' h S ws) (fun _ _ _ _ _ => True) (fun _ U o U' => QmN Z EL U h ws rm P o U')
/-- a body's contract: walk it from its first frame -/
theorem MetN.of {y : MethodName} {bytes : ByteArray} {maxL : Nat} {ret : Option FieldType} {rm : Room} {as' : Array Value} {P : Option Value → Heap → List Addr → Prop} (hpn : plainFor y = true)
    (body : ∀ p e s m below meth c T, meth.name = y.name → meth.sig.returnType = ret → meth.locks = false → c.code = bytes → c.maxLocals = maxL → s.heap = h0 → Wk p l e rm s m as' below meth c Z EL y.cls h0 ws T h0 0 0 S → Run p e below (QmN Z EL s h0 ws rm P) T (entryFrame m as' maxL)) : MetN l Z EL y bytes maxL ret rm as' h0 S ws P := by
  intro wl
  refine MetFree.of_bodySF (code := bytes) (maxLocals := maxL) (ret := ret) hpn hisR ?_
  intro p e s m args below meth c s₁ Bd hml0 hP hK
  obtain ⟨rfl, hZ, hh, hC, hn, hws, hS⟩ := hP
  have hnm := (name_of_methodNamed Bd.named Bd.method).1
  have hown : s.vm.findClass y.cls = some m.cls := findClass_of_methodNamed Bd.named
  have X0 : Stand p l e rm s m args below meth c s₁ [] 0 0 := Stand.of_body Bd
  have e0 : s₁.heap = h0 := by rw [← hh, Bd.state]; rfl
  exact body p e s m below meth c s₁ hnm Bd.returns Bd.notSynchronized Bd.bytes hml0 hh ⟨s.vm, 0, [], Bd.exec, X0, e0, (State.WarmedH.refl s).since 0, Nat.zero_le _, hZ, hown, CHr.refl hC, Fr.nil _, Keep.refl _ _, hn, hws, hS⟩
/-- the end of a walk -/
theorem w_retN (w : Wk p l e R s m args below meth c Z EL own h0 ws T h cells slots S) (hEL : EW Z a0 EL) (hs : s.heap = h0) (hlk : meth.locks = false) {v : Option Value} (hv : meth.sig.returnType = none → v = none) {P : Option Value → Heap → List Addr → Prop} {N : List Addr} (hN : ∀ x ∈ N, x ∈ S) (hP : P v h N) (hc : cells ≤ R.cells) (hl : slots ≤ R.slots)
    (stp : ∀ {vm0 : Vm} {locs : List Loc}, Stand p l e R (s.setVm vm0) m args below meth c T locs cells slots → ∀ fs, (∀ (f : JFrame) (acts : List Action), f.method = m → f.locked = none → f.entered = [] → (doReturn e (T.setTop f) acts v).1 = T.setFrames fs) → Steps p.tables e below (T.setTop g) (T.setFrames fs)) : Run p e below (QmN Z EL s h0 ws R P) T g := by
  obtain ⟨vm0, k0, locs, hx, X, eT, r⟩ := w
  obtain ⟨fs, hr, hrun, hended, hE⟩ := X.leaveW r.1 (by rw [eT]; exact r.2.1) hv
  refine ⟨_, _, stp X fs hr, hrun, hended, v, locs, rfl, ⟨r.2.2.2.2.2.1, ?_, ?_⟩, ?_, hE.1, hE.2.1, hE.2.2.1, hE.2.2.2.mono hc hl⟩
  · show Keep h0 T.heap ws
    rw [eT]; exact r.keep
  · refine ⟨N, by rw [show (T.setFrames fs).heap = h from eT]; exact hP, fun x z => ?_⟩
    show x < T.heap.size ∧ Safe Z EL T.vm T.heap x
    have q := r.2.2.2.2.2.2.2.2.2 x (hN x z)
    rw [eT]; exact ⟨q.1, (CHv.at X r.hZ hEL r.ch).safe q.1 q.2⟩
  · show CHr Z EL s.vm s.heap T.vm T.heap
    rw [eT, hs]
    exact r.2.2.2.2.1.trans (CHv.at X r.hZ hEL r.ch)
theorem w_ireturnN (w : Wk p l e R s m args below meth c Z EL own h0 ws T h cells slots S) (hEL : EW Z a0 EL) (hs : s.heap = h0) (hlk : meth.locks = false) {t : FieldType} {z : Int32} (hret : meth.sig.returnType = some t) (hn : narrow t (.int z) = .int z) (ht : t = .int ∨ t = .boolean ∨ t = .byte ∨ t = .char ∨ t = .short) {P : Option Value → Heap → List Addr → Prop} (hd : decode c.code pc = .ok (.ireturn, 1)) (hc : cells ≤ R.cells) (hl : slots ≤ R.slots) {N : List Addr} (hN : ∀ x ∈ N, x ∈ S) (hP : P (some (.int z)) h N) : Run p e below (QmN Z EL s h0 ws R P) T (mkF m pc Ls [.int z]) :=
  w_retN w hEL hs hlk (v := some (.int z)) (fun q => by rw [hret] at q; cases q) hN hP hc hl fun X fs hr => X.ireturnOut w.hx hret hn ht hd hr
theorem w_lreturnN (w : Wk p l e R s m args below meth c Z EL own h0 ws T h cells slots S) (hEL : EW Z a0 EL) (hs : s.heap = h0) (hlk : meth.locks = false) {z : Int64} (hret : meth.sig.returnType = some .long) {P : Option Value → Heap → List Addr → Prop} (hd : decode c.code pc = .ok (.lreturn, 1)) (hc : cells ≤ R.cells) (hl : slots ≤ R.slots) {N : List Addr} (hN : ∀ x ∈ N, x ∈ S) (hP : P (some (.long z)) h N) : Run p e below (QmN Z EL s h0 ws R P) T (mkF m pc Ls [.long z]) :=
  w_retN w hEL hs hlk (v := some (.long z)) (fun q => by rw [hret] at q; cases q) hN hP hc hl fun X fs hr => X.lreturnOut w.hx hret hd hr
theorem w_areturnN (w : Wk p l e R s m args below meth c Z EL own h0 ws T h cells slots S) (hEL : EW Z a0 EL) (hs : s.heap = h0) (hlk : meth.locks = false) {t : FieldType} {v : Value} (hret : meth.sig.returnType = some t) (ht : t.isReference = true) (hv : v.isRef = true) {P : Option Value → Heap → List Addr → Prop} (hd : decode c.code pc = .ok (.areturn, 1)) (hc : cells ≤ R.cells) (hl : slots ≤ R.slots) {N : List Addr} (hN : ∀ x ∈ N, x ∈ S) (hP : P (some v) h N) : Run p e below (QmN Z EL s h0 ws R P) T (mkF m pc Ls [v]) :=
  w_retN w hEL hs hlk (v := some v) (fun q => by rw [hret] at q; cases q) hN hP hc hl fun X fs hr => X.areturnOut w.hx hv hret ht hd hr
theorem w_returnN (w : Wk p l e R s m args below meth c Z EL own h0 ws T h cells slots S) (hEL : EW Z a0 EL) (hs : s.heap = h0) (hlk : meth.locks = false) (hret : meth.sig.returnType = none) {P : Option Value → Heap → List Addr → Prop} (hd : decode c.code pc = .ok (.return_, 1)) (hc : cells ≤ R.cells) (hl : slots ≤ R.slots) {N : List Addr} (hN : ∀ x ∈ N, x ∈ S) (hP : P none h N) : Run p e below (QmN Z EL s h0 ws R P) T (mkF m pc Ls []) :=
  w_retN w hEL hs hlk (v := none) (fun _ => rfl) hN hP hc hl fun X fs hr => X.returnOut w.hx hret hd hr
/-- a contract pays its caller -/
theorem MetN.back {y : MethodName} {bytes : ByteArray} {maxL : Nat} {ret : Option FieldType} {rm : Room} {as' : Array Value} {S' ws' : List Addr} {P : Option Value → Heap → List Addr → Prop} {len W : Nat} (hM : MetN l Z EL y bytes maxL ret rm as' h S' ws' P) (hZ : Z.Warmed39 vm0) (wc : (Jvm.Cond.code y bytes maxL ret).before a0 Z = true) (wz : (Jvm.Cond.initialized y.cls).before a0 Z = true)
    (hf : rm.frames + 1 ≤ R.frames) (hl : W + (maxL + 11) + rm.locals ≤ R.locals) (hEL : EW Z a0 EL) (H : CHv Z EL vm0 h) (hn : Ext Z.heap h) (hws : ∀ x ∈ ws', Z.heap.size ≤ x) (hS : ∀ x ∈ S', x < h.size ∧ Safe Z EL vm0 h x) :
    BackS l R p e below (s.setVm vm0) args y len W (fun A a => a = as' ∧ A.U.heap = h ∧ A.cells + rm.cells ≤ R.cells ∧ A.slots + rm.slots ≤ R.slots)
      (fun A _ v B => ∃ L, (Fr Z.heap.size L ∧ Keep h B.U.heap ws' ∧ ∃ N, P v B.U.heap N ∧ ∀ x ∈ N, x < B.U.heap.size ∧ Safe Z EL B.U.vm B.U.heap x) ∧ B.locs = A.locs ++ L ∧ B.cells = A.cells + rm.cells ∧ B.slots = A.slots + rm.slots ∧ CHr Z EL vm0 h B.U.vm B.U.heap) :=
  BackS.of_freeW (bytes := bytes) (maxL := maxL) (ret := ret) (E := fun _ first o t L k n => k = rm.cells ∧ n = rm.slots ∧ (∃ v, o = .returned v ∧ (Fr Z.heap.size L ∧ Keep h t.heap ws' ∧ ∃ N, P v t.heap N ∧ ∀ x ∈ N, x < t.heap.size ∧ Safe Z EL t.vm t.heap x)) ∧ CHr Z EL first.vm first.heap t.vm t.heap) (hM []) hf hl
    (fun m meth c A a Y hp => have hU : Z.Warmed39 A.U.vm := wtrans (s := s.setVm vm0) hZ Y.warmed
      ⟨by show (Jvm.Cond.and _ .tt).before a A.U = true; rw [Cond.before_and, mv hU wc]; rfl, mv hU wc, mv hU wz, hp.2.2.1, hp.2.2.2⟩)
    (fun m meth c A a g mk Y hp => ⟨hp.1, wtrans (s := s.setVm vm0) hZ Y.warmed, hp.2.1, (CHv.at Y hZ hEL H).1, hn, hws, fun x q => ⟨(hS x q).1, (CHv.at Y hZ hEL H).safe (hS x q).1 (hS x q).2⟩⟩) (fun _ _ _ _ _ _ _ _ _ => trivial)
    (fun _ _ _ _ ⟨v, L, h1, h2, h3, h4⟩ => ⟨L, _, _, h4, rfl, rfl, ⟨v, h1, h2⟩, h3⟩)
    (fun m meth c A a g mk v t L k n Y hp _ _ ⟨e1, e2, ⟨v', e3, e4⟩, e5⟩ => by
      cases e3; subst e1 e2
      refine ⟨L, e4, rfl, rfl, rfl, (CHv.at Y hZ hEL H).trans ?_⟩
      rw [← hp.2.1]; exact e5)
theorem Rs.adds (r : Rs s m Z EL own h0 ws vm0 k0 locs h S) {N : List Addr} (q : ∀ x ∈ N, x < h.size ∧ Safe Z EL vm0 h x) : Rs s m Z EL own h0 ws vm0 k0 locs h (N ++ S) := by
  obtain ⟨a1, a2, a3, a4, a5, a6, a7, a8, a9, a10⟩ := r
  exact ⟨a1, a2, a3, a4, a5, a6, a7, a8, a9, fun x z => (List.mem_append.mp z).elim (q x) (a10 x)⟩
/-- what stands behind a call -/
theorem Rs.call (r : Rs s m Z EL own h0 ws vm0 k0 locs h S) {vm1 : Vm} {L : List Loc} {ws' : List Addr} (h2 : (s.setVm vm0).Since vm1 h'.size) (hC : CHr Z EL vm0 h vm1 h') (F : Fr Z.heap.size L) (K : Keep h h' ws') (q : ∀ x ∈ ws', x ∈ ws ∨ h0.size ≤ x) : Rs s m Z EL own h0 ws vm1 h'.size (locs ++ L) h' S := by
  obtain ⟨a1, a2, a3, a4, a5, a6, a7, a8, a9, a10⟩ := r
  exact ⟨a1.trans h2 (Nat.le_trans a2 K.1), Nat.le_refl _, State.Warmed39.trans (t := s.setVm vm0) a3 h2.1, (h2.1.alike.findClass _ _).trans a4, a5.trans hC, a6.app F, a7.trans K q, a8, a9, fun x z => ⟨Nat.lt_of_lt_of_le (a10 x z).1 K.1, hC.safe (a10 x z).1 (a10 x z).2⟩⟩
theorem w_staticN (w : Wk p l e R s m args below meth c Z EL own h0 ws T h cells slots S) (hEL : EW Z a0 EL) {index : Nat} {y : MethodName} {bytes : ByteArray} {maxL : Nat} {ret : Option FieldType} {rm : Room} {as' : Array Value} {S' ws' : List Addr} {P : Option Value → Heap → List Addr → Prop} {W : Nat} {argsL : List Value}
    (w1 : (Jvm.Cond.methodLink own index y).before a0 Z = true) (w2 : (Jvm.Cond.static y).before a0 Z = true) (w3 : (Jvm.Cond.initialized y.cls).before a0 Z = true) (w4 : (Jvm.Cond.code y bytes maxL ret).before a0 Z = true) (hy : y.cls ≠ "java/lang/invoke/MethodHandle" ∧ y.cls ≠ "java/lang/invoke/VarHandle")
    (hM : MetN l Z EL y bytes maxL ret rm as' h S' ws' P) (hS : ∀ x ∈ S', x ∈ S) (hws : ∀ x ∈ ws', x ∈ ws ∨ h0.size ≤ x) (hlen : ∀ sig, parseMethodDescriptor y.desc = some sig → argsL.length = sig.parameters.length) (ha : argsL.toArray = as') (hst : st = argsL.reverse ++ rest) (hd : decode c.code pc = .ok (.invokestatic index, 3)) (hsz : Ls.size = c.maxLocals)
    (hW : (rest.map fun v => v.category).sum ≤ W) (hf : rm.frames + 1 ≤ R.frames) (hl : W + (maxL + 11) + rm.locals ≤ R.locals) (hc : cells + rm.cells ≤ R.cells) (hsl : slots + rm.slots ≤ R.slots) (hp : pc + 3 = pc')
    (k : ∀ v N T' h', Wk p l e R s m args below meth c Z EL own h0 ws T' h' (cells + rm.cells) (slots + rm.slots) (N ++ S) → Keep h h' ws' → P v h' N → Run p e below Q T' (mkF m pc' Ls (v.toList ++ rest))) : Run p e below Q T (mkF m pc Ls st) := by
  obtain ⟨vm0, k0, locs, hx, X, eT, r⟩ := w
  have hn := r.old
  have hb := MetN.back (R := R) (p := p) (e := e) (below := below) (s := s) (args := args) (len := 3) (W := W) hM r.hZ w4 w3 hf hl hEL r.ch hn (fun x q => (hws x q).elim (r.2.2.2.2.2.2.2.2.1 x) (Nat.le_trans r.2.2.2.2.2.2.2.1.1)) (fun x q => r.2.2.2.2.2.2.2.2.2 x (hS x q))
  obtain ⟨v, vm1, ⟨T', L', c', n'⟩, -, X', hSi, hg, ⟨L, ⟨q1, q2, N, q3, qN⟩, y1, y2, y3, hC⟩, stp⟩ := callSS X hx r.ow (mvT r.hZ w1) (mvT r.hZ w2) (mvT r.hZ w3) (mvT r.hZ w4) hy hb (g := mkF m pc Ls st) rfl hsz (argsL := argsL) (rest := rest) hlen hst (by show 2 * 0 + _ ≤ _; omega) hd (fun _ _ => ⟨ha, eT, hc, hsl⟩)
  dsimp only [Pt.U, Pt.locs, Pt.cells, Pt.slots] at X' hSi hg q2 q3 qN y1 y2 y3 hC stp
  subst y1 y2 y3 hp
  exact Run.stp stp (k v N T' T'.heap ⟨T'.vm, _, _, hx, X', rfl, (r.call hSi hC q1 q2 hws).adds qN⟩ q2 q3)
theorem w_specialN (w : Wk p l e R s m args below meth c Z EL own h0 ws T h cells slots S) (hEL : EW Z a0 EL) {index : Nat} {y : MethodName} {bytes : ByteArray} {maxL : Nat} {rm : Room} {as' : Array Value} {S' ws' : List Addr} {P : Option Value → Heap → List Addr → Prop} {W : Nat} {a : Addr} {argsL : List Value}
    (hy1 : y.name = "<init>") (w1 : (Jvm.Cond.methodLink own index y).before a0 Z = true) (w2 : (Jvm.Cond.instanceMethod y).before a0 Z = true) (w3 : (Jvm.Cond.initialized y.cls).before a0 Z = true) (w4 : (Jvm.Cond.code y bytes maxL none).before a0 Z = true) (hy : y.cls ≠ "java/lang/invoke/MethodHandle" ∧ y.cls ≠ "java/lang/invoke/VarHandle")
    (hM : MetN l Z EL y bytes maxL none rm as' h S' ws' P) (hS : ∀ x ∈ S', x ∈ S) (hws : ∀ x ∈ ws', x ∈ ws ∨ h0.size ≤ x) (hlen : ∀ sig, parseMethodDescriptor y.desc = some sig → argsL.length = sig.parameters.length) (ha : (Value.ref a :: argsL).toArray = as') (hst : st = argsL.reverse ++ .ref a :: rest) (hd : decode c.code pc = .ok (.invokespecial index, 3)) (hsz : Ls.size = c.maxLocals)
    (hW : (rest.map fun v => v.category).sum ≤ W) (hf : rm.frames + 1 ≤ R.frames) (hl : W + (maxL + 11) + rm.locals ≤ R.locals) (hc : cells + rm.cells ≤ R.cells) (hsl : slots + rm.slots ≤ R.slots) (hp : pc + 3 = pc')
    (k : ∀ v N T' h', Wk p l e R s m args below meth c Z EL own h0 ws T' h' (cells + rm.cells) (slots + rm.slots) (N ++ S) → Keep h h' ws' → P v h' N → Run p e below Q T' (mkF m pc' Ls (v.toList ++ rest))) : Run p e below Q T (mkF m pc Ls st) := by
  obtain ⟨vm0, k0, locs, hx, X, eT, r⟩ := w
  have hn := r.old
  have hb := MetN.back (R := R) (p := p) (e := e) (below := below) (s := s) (args := args) (len := 3) (W := W) hM r.hZ w4 w3 hf hl hEL r.ch hn (fun x q => (hws x q).elim (r.2.2.2.2.2.2.2.2.1 x) (Nat.le_trans r.2.2.2.2.2.2.2.1.1)) (fun x q => r.2.2.2.2.2.2.2.2.2 x (hS x q))
  obtain ⟨v, vm1, ⟨T', L', c', n'⟩, -, X', hSi, hg, ⟨L, ⟨q1, q2, N, q3, qN⟩, y1, y2, y3, hC⟩, stp⟩ := X.specialBackS hx hy1 r.ow (mvT r.hZ w1) (mvT r.hZ w2) (mvT r.hZ w4) hy hb (g := mkF m pc Ls st) rfl hsz (Steps.refl _) (a := a) (argsL := argsL) (rest := rest) hlen hst (by show 2 * 0 + _ ≤ _; omega) hd (fun _ _ => ⟨ha, eT, hc, hsl⟩)
  dsimp only [Pt.U, Pt.locs, Pt.cells, Pt.slots] at X' hSi hg q2 q3 qN y1 y2 y3 hC stp
  subst y1 y2 y3 hp
  exact Run.stp stp (k v N T' T'.heap ⟨T'.vm, _, _, hx, X', rfl, (r.call hSi hC q1 q2 hws).adds qN⟩ q2 q3)
theorem w_virtualN (w : Wk p l e R s m args below meth c Z EL own h0 ws T h cells slots S) (hEL : EW Z a0 EL) {index : Nat} {y y' : MethodName} {C : String} {bytes : ByteArray} {maxL : Nat} {ret : Option FieldType} {rm : Room} {as' : Array Value} {S' ws' : List Addr} {P : Option Value → Heap → List Addr → Prop} {W : Nat} {a : Addr} {argsL : List Value}
    (w1 : (Jvm.Cond.methodLink own index y).before a0 Z = true) (w2 : (Jvm.Cond.declares y).before a0 Z = true) (w5 : (Jvm.Cond.selects y.cls y y).before a0 Z = true) (w6 : (Jvm.Cond.selects C y y').before a0 Z = true) (w7 : (Jvm.Cond.instanceMethod y').before a0 Z = true) (w3 : (Jvm.Cond.initialized y'.cls).before a0 Z = true) (w4 : (Jvm.Cond.code y' bytes maxL ret).before a0 Z = true) (hy : y.cls ≠ "java/lang/invoke/MethodHandle" ∧ y.cls ≠ "java/lang/invoke/VarHandle")
    (E : Exa Z h a C) (hM : MetN l Z EL y' bytes maxL ret rm as' h S' ws' P) (hS : ∀ x ∈ S', x ∈ S) (hws : ∀ x ∈ ws', x ∈ ws ∨ h0.size ≤ x) (hlen : ∀ sig, parseMethodDescriptor y.desc = some sig → argsL.length = sig.parameters.length) (ha : (Value.ref a :: argsL).toArray = as') (hst : st = argsL.reverse ++ .ref a :: rest) (hd : decode c.code pc = .ok (.invokevirtual index, 3)) (hsz : Ls.size = c.maxLocals)
    (hW : (rest.map fun v => v.category).sum ≤ W) (hf : rm.frames + 1 ≤ R.frames) (hl : W + (maxL + 11) + rm.locals ≤ R.locals) (hc : cells + rm.cells ≤ R.cells) (hsl : slots + rm.slots ≤ R.slots) (hp : pc + 3 = pc')
    (k : ∀ v N T' h', Wk p l e R s m args below meth c Z EL own h0 ws T' h' (cells + rm.cells) (slots + rm.slots) (N ++ S) → Keep h h' ws' → P v h' N → Run p e below Q T' (mkF m pc' Ls (v.toList ++ rest))) : Run p e below Q T (mkF m pc Ls st) := by
  obtain ⟨vm0, k0, locs, hx, X, eT, r⟩ := w
  have hn := r.old
  have hb := MetN.back (R := R) (p := p) (e := e) (below := below) (s := s) (args := args) (len := 3) (W := W) hM r.hZ w4 w3 hf hl hEL r.ch hn (fun x q => (hws x q).elim (r.2.2.2.2.2.2.2.2.1 x) (Nat.le_trans r.2.2.2.2.2.2.2.1.1)) (fun x q => r.2.2.2.2.2.2.2.2.2 x (hS x q))
  obtain ⟨cq, kq, qa, qb, qc⟩ := isOf r.hZ eT E
  obtain ⟨v, vm1, ⟨T', L', c', n'⟩, -, X', hSi, hg, ⟨L, ⟨q1, q2, N, q3, qN⟩, y1, y2, y3, hC⟩, stp⟩ := X.virtualBackS hx r.ow (mvT r.hZ w1) (mvT r.hZ w2) (notFace_of_selects (args := #[]) (mvT r.hZ w5)) (mvT r.hZ w6) (mvT r.hZ w7) hy hb qa qc (g := mkF m pc Ls st) rfl hsz (Steps.refl _) (argsL := argsL) (rest := rest) hlen hst (by show 2 * 0 + _ ≤ _; omega) hd (fun _ _ => ⟨ha, eT, hc, hsl⟩)
  dsimp only [Pt.U, Pt.locs, Pt.cells, Pt.slots] at X' hSi hg q2 q3 qN y1 y2 y3 hC stp
  subst y1 y2 y3 hp
  exact Run.stp stp (k v N T' T'.heap ⟨T'.vm, _, _, hx, X', rfl, (r.call hSi hC q1 q2 hws).adds qN⟩ q2 q3)
/-- a contract that says nothing of what it made -/
def Lf (P : Option Value → Heap → Prop) (v : Option Value) (h : Heap) (N : List Addr) : Prop := N = [] ∧ P v h
abbrev Qm (Z : State) (EL : List (String × Nat)) (s : State) (h0 : Heap) (ws : List Addr) (rm : Room) (P : Option Value → Heap → Prop) (o : Outcome) (U' : State) : Prop := QmN Z EL s h0 ws rm (Lf P) o U'
abbrev Met (l : Launch) (Z : State) (EL : List (String × Nat)) (y : MethodName) (bytes : ByteArray) (maxL : Nat) (ret : Option FieldType) (rm : Room) (as' : Array Value) (h : Heap) (S ws : List Addr) (P : Option Value → Heap → Prop) : Prop := MetN l Z EL y bytes maxL ret rm as' h S ws (Lf P)
theorem Met.of {y : MethodName} {bytes : ByteArray} {maxL : Nat} {ret : Option FieldType} {rm : Room} {as' : Array Value} {P : Option Value → Heap → Prop} (hpn : plainFor y = true)
    (body : ∀ p e s m below meth c T, meth.name = y.name → meth.sig.returnType = ret → meth.locks = false → c.code = bytes → c.maxLocals = maxL → s.heap = h0 → Wk p l e rm s m as' below meth c Z EL y.cls h0 ws T h0 0 0 S → Run p e below (Qm Z EL s h0 ws rm P) T (entryFrame m as' maxL)) : Met l Z EL y bytes maxL ret rm as' h0 S ws P := MetN.of hpn body
theorem nilS : ∀ x ∈ ([] : List Addr), x ∈ S := fun _ q => nomatch q
theorem w_ireturn (w : Wk p l e R s m args below meth c Z EL own h0 ws T h cells slots S) (hEL : EW Z a0 EL) (hs : s.heap = h0) (hlk : meth.locks = false) {t : FieldType} {z : Int32} (hret : meth.sig.returnType = some t) (hn : narrow t (.int z) = .int z) (ht : t = .int ∨ t = .boolean ∨ t = .byte ∨ t = .char ∨ t = .short) {P : Option Value → Heap → Prop} (hd : decode c.code pc = .ok (.ireturn, 1)) (hc : cells ≤ R.cells) (hl : slots ≤ R.slots) (hP : P (some (.int z)) h) : Run p e below (Qm Z EL s h0 ws R P) T (mkF m pc Ls [.int z]) :=
  w_ireturnN w hEL hs hlk hret hn ht hd hc hl nilS ⟨rfl, hP⟩
theorem w_lreturn (w : Wk p l e R s m args below meth c Z EL own h0 ws T h cells slots S) (hEL : EW Z a0 EL) (hs : s.heap = h0) (hlk : meth.locks = false) {z : Int64} (hret : meth.sig.returnType = some .long) {P : Option Value → Heap → Prop} (hd : decode c.code pc = .ok (.lreturn, 1)) (hc : cells ≤ R.cells) (hl : slots ≤ R.slots) (hP : P (some (.long z)) h) : Run p e below (Qm Z EL s h0 ws R P) T (mkF m pc Ls [.long z]) :=
  w_lreturnN w hEL hs hlk hret hd hc hl nilS ⟨rfl, hP⟩
theorem w_areturn (w : Wk p l e R s m args below meth c Z EL own h0 ws T h cells slots S) (hEL : EW Z a0 EL) (hs : s.heap = h0) (hlk : meth.locks = false) {t : FieldType} {v : Value} (hret : meth.sig.returnType = some t) (ht : t.isReference = true) (hv : v.isRef = true) {P : Option Value → Heap → Prop} (hd : decode c.code pc = .ok (.areturn, 1)) (hc : cells ≤ R.cells) (hl : slots ≤ R.slots) (hP : P (some v) h) : Run p e below (Qm Z EL s h0 ws R P) T (mkF m pc Ls [v]) :=
  w_areturnN w hEL hs hlk hret ht hv hd hc hl nilS ⟨rfl, hP⟩
theorem w_return (w : Wk p l e R s m args below meth c Z EL own h0 ws T h cells slots S) (hEL : EW Z a0 EL) (hs : s.heap = h0) (hlk : meth.locks = false) (hret : meth.sig.returnType = none) {P : Option Value → Heap → Prop} (hd : decode c.code pc = .ok (.return_, 1)) (hc : cells ≤ R.cells) (hl : slots ≤ R.slots) (hP : P none h) : Run p e below (Qm Z EL s h0 ws R P) T (mkF m pc Ls []) :=
  w_returnN w hEL hs hlk hret hd hc hl nilS ⟨rfl, hP⟩
theorem w_static (w : Wk p l e R s m args below meth c Z EL own h0 ws T h cells slots S) (hEL : EW Z a0 EL) {index : Nat} {y : MethodName} {bytes : ByteArray} {maxL : Nat} {ret : Option FieldType} {rm : Room} {as' : Array Value} {S' ws' : List Addr} {P : Option Value → Heap → Prop} {W : Nat} {argsL : List Value}
    (w1 : (Jvm.Cond.methodLink own index y).before a0 Z = true) (w2 : (Jvm.Cond.static y).before a0 Z = true) (w3 : (Jvm.Cond.initialized y.cls).before a0 Z = true) (w4 : (Jvm.Cond.code y bytes maxL ret).before a0 Z = true) (hy : y.cls ≠ "java/lang/invoke/MethodHandle" ∧ y.cls ≠ "java/lang/invoke/VarHandle")
    (hM : Met l Z EL y bytes maxL ret rm as' h S' ws' P) (hS : ∀ x ∈ S', x ∈ S) (hws : ∀ x ∈ ws', x ∈ ws ∨ h0.size ≤ x) (hlen : ∀ sig, parseMethodDescriptor y.desc = some sig → argsL.length = sig.parameters.length) (ha : argsL.toArray = as') (hst : st = argsL.reverse ++ rest) (hd : decode c.code pc = .ok (.invokestatic index, 3)) (hsz : Ls.size = c.maxLocals)
    (hW : (rest.map fun v => v.category).sum ≤ W) (hf : rm.frames + 1 ≤ R.frames) (hl : W + (maxL + 11) + rm.locals ≤ R.locals) (hc : cells + rm.cells ≤ R.cells) (hsl : slots + rm.slots ≤ R.slots) (hp : pc + 3 = pc')
    (k : ∀ v T' h', Wk p l e R s m args below meth c Z EL own h0 ws T' h' (cells + rm.cells) (slots + rm.slots) S → Keep h h' ws' → P v h' → Run p e below Q T' (mkF m pc' Ls (v.toList ++ rest))) : Run p e below Q T (mkF m pc Ls st) :=
  w_staticN w hEL w1 w2 w3 w4 hy hM hS hws hlen ha hst hd hsz hW hf hl hc hsl hp fun v N T' h' w' K' P' => by obtain ⟨rfl, P'⟩ := P'; exact k v T' h' w' K' P'
theorem w_special (w : Wk p l e R s m args below meth c Z EL own h0 ws T h cells slots S) (hEL : EW Z a0 EL) {index : Nat} {y : MethodName} {bytes : ByteArray} {maxL : Nat} {rm : Room} {as' : Array Value} {S' ws' : List Addr} {P : Option Value → Heap → Prop} {W : Nat} {a : Addr} {argsL : List Value}
    (hy1 : y.name = "<init>") (w1 : (Jvm.Cond.methodLink own index y).before a0 Z = true) (w2 : (Jvm.Cond.instanceMethod y).before a0 Z = true) (w3 : (Jvm.Cond.initialized y.cls).before a0 Z = true) (w4 : (Jvm.Cond.code y bytes maxL none).before a0 Z = true) (hy : y.cls ≠ "java/lang/invoke/MethodHandle" ∧ y.cls ≠ "java/lang/invoke/VarHandle")
    (hM : Met l Z EL y bytes maxL none rm as' h S' ws' P) (hS : ∀ x ∈ S', x ∈ S) (hws : ∀ x ∈ ws', x ∈ ws ∨ h0.size ≤ x) (hlen : ∀ sig, parseMethodDescriptor y.desc = some sig → argsL.length = sig.parameters.length) (ha : (Value.ref a :: argsL).toArray = as') (hst : st = argsL.reverse ++ .ref a :: rest) (hd : decode c.code pc = .ok (.invokespecial index, 3)) (hsz : Ls.size = c.maxLocals)
    (hW : (rest.map fun v => v.category).sum ≤ W) (hf : rm.frames + 1 ≤ R.frames) (hl : W + (maxL + 11) + rm.locals ≤ R.locals) (hc : cells + rm.cells ≤ R.cells) (hsl : slots + rm.slots ≤ R.slots) (hp : pc + 3 = pc')
    (k : ∀ v T' h', Wk p l e R s m args below meth c Z EL own h0 ws T' h' (cells + rm.cells) (slots + rm.slots) S → Keep h h' ws' → P v h' → Run p e below Q T' (mkF m pc' Ls (v.toList ++ rest))) : Run p e below Q T (mkF m pc Ls st) :=
  w_specialN w hEL hy1 w1 w2 w3 w4 hy hM hS hws hlen ha hst hd hsz hW hf hl hc hsl hp fun v N T' h' w' K' P' => by obtain ⟨rfl, P'⟩ := P'; exact k v T' h' w' K' P'
theorem w_virtual (w : Wk p l e R s m args below meth c Z EL own h0 ws T h cells slots S) (hEL : EW Z a0 EL) {index : Nat} {y y' : MethodName} {C : String} {bytes : ByteArray} {maxL : Nat} {ret : Option FieldType} {rm : Room} {as' : Array Value} {S' ws' : List Addr} {P : Option Value → Heap → Prop} {W : Nat} {a : Addr} {argsL : List Value}
    (w1 : (Jvm.Cond.methodLink own index y).before a0 Z = true) (w2 : (Jvm.Cond.declares y).before a0 Z = true) (w5 : (Jvm.Cond.selects y.cls y y).before a0 Z = true) (w6 : (Jvm.Cond.selects C y y').before a0 Z = true) (w7 : (Jvm.Cond.instanceMethod y').before a0 Z = true) (w3 : (Jvm.Cond.initialized y'.cls).before a0 Z = true) (w4 : (Jvm.Cond.code y' bytes maxL ret).before a0 Z = true) (hy : y.cls ≠ "java/lang/invoke/MethodHandle" ∧ y.cls ≠ "java/lang/invoke/VarHandle")
    (E : Exa Z h a C) (hM : Met l Z EL y' bytes maxL ret rm as' h S' ws' P) (hS : ∀ x ∈ S', x ∈ S) (hws : ∀ x ∈ ws', x ∈ ws ∨ h0.size ≤ x) (hlen : ∀ sig, parseMethodDescriptor y.desc = some sig → argsL.length = sig.parameters.length) (ha : (Value.ref a :: argsL).toArray = as') (hst : st = argsL.reverse ++ .ref a :: rest) (hd : decode c.code pc = .ok (.invokevirtual index, 3)) (hsz : Ls.size = c.maxLocals)
    (hW : (rest.map fun v => v.category).sum ≤ W) (hf : rm.frames + 1 ≤ R.frames) (hl : W + (maxL + 11) + rm.locals ≤ R.locals) (hc : cells + rm.cells ≤ R.cells) (hsl : slots + rm.slots ≤ R.slots) (hp : pc + 3 = pc')
    (k : ∀ v T' h', Wk p l e R s m args below meth c Z EL own h0 ws T' h' (cells + rm.cells) (slots + rm.slots) S → Keep h h' ws' → P v h' → Run p e below Q T' (mkF m pc' Ls (v.toList ++ rest))) : Run p e below Q T (mkF m pc Ls st) :=
  w_virtualN w hEL w1 w2 w5 w6 w7 w3 w4 hy E hM hS hws hlen ha hst hd hsz hW hf hl hc hsl hp fun v N T' h' w' K' P' => by obtain ⟨rfl, P'⟩ := P'; exact k v T' h' w' K' P'
/-- a law of the pasted text (Back), of a virtual call that leaves the heap as it was -/
theorem w_virtB (w : Wk p l e R s m args below meth c Z EL own h0 ws T h cells slots S) {index : Nat} {y y' : MethodName} {C : String} {as' : Array Value} {Pv : Option Value → Prop} {W : Nat} {a : Addr} {argsL : List Value}
    (w1 : (Jvm.Cond.methodLink own index y).before a0 Z = true) (w2 : (Jvm.Cond.declares y).before a0 Z = true) (w5 : (Jvm.Cond.selects y.cls y y).before a0 Z = true) (w6 : (Jvm.Cond.selects C y y').before a0 Z = true) (w7 : (Jvm.Cond.instanceMethod y').before a0 Z = true) (hy : y.cls ≠ "java/lang/invoke/MethodHandle" ∧ y.cls ≠ "java/lang/invoke/VarHandle")
    (E : Exa Z h a C) (hK : ∀ vm0, Z.Warmed39 (s.setVm vm0).vm → Back l R p e below (s.setVm vm0) args y' 3 W (fun P b => b = as' ∧ P.U.heap = h ∧ P.cells + 0 ≤ R.cells ∧ P.slots + 0 ≤ R.slots) (fun P _ v B => ∃ L, (Pv v ∧ L = [] ∧ B.U.heap = h) ∧ B.locs = P.locs ++ L ∧ B.cells = P.cells + 0 ∧ B.slots = P.slots + 0))
    (hlen : ∀ sig, parseMethodDescriptor y.desc = some sig → argsL.length = sig.parameters.length) (ha : (Value.ref a :: argsL).toArray = as') (hst : st = argsL.reverse ++ .ref a :: rest) (hd : decode c.code pc = .ok (.invokevirtual index, 3)) (hsz : Ls.size = c.maxLocals)
    (hW : (rest.map fun v => v.category).sum ≤ W) (hc : cells ≤ R.cells) (hsl : slots ≤ R.slots) (hp : pc + 3 = pc')
    (k : ∀ v T', Wk p l e R s m args below meth c Z EL own h0 ws T' h cells slots S → Pv v → Run p e below Q T' (mkF m pc' Ls (v.toList ++ rest))) : Run p e below Q T (mkF m pc Ls st) := by
  obtain ⟨vm0, k0, locs, hx, X, eT, r⟩ := w
  obtain ⟨cq, kq, qa, qb, qc⟩ := isOf r.hZ eT E
  obtain ⟨v, vm1, ⟨T', L', c', n'⟩, -, X', ⟨L, ⟨q1, q2, q3⟩, y1, y2, y3⟩, stp⟩ := X.virtualBack hx r.ow (mvT r.hZ w1) (mvT r.hZ w2) (notFace_of_selects (args := #[]) (mvT r.hZ w5)) (mvT r.hZ w6) (mvT r.hZ w7) hy (hK vm0 r.hZ) qa qc (g := mkF m pc Ls st) rfl hsz (Steps.refl _) (argsL := argsL) (rest := rest) hlen hst (by show 2 * 0 + _ ≤ _; omega) hd (fun _ _ => ⟨ha, eT, hc, hsl⟩)
  dsimp only [Pt.U, Pt.locs, Pt.cells, Pt.slots] at X' q3 y1 y2 y3 stp
  subst q2 y1 y2 y3 hp
  rw [List.append_nil] at X'
  exact Run.stp stp (k v T' ⟨vm0, k0, locs, hx, X', q3, r⟩ q1)
end Kit
end Ow
end Jvm.Pilot.@@N@@


namespace Jvm.Pilot.@@N@@
open Jvm Jvm.ClassFile Sem Op Lib Jvm.Free Jvm.Stand Jvm.LawKit Jvm.RoadKit Bundle Jvm.Pilot.@@N@@.Jvm.D
namespace Ow
open StrChars StrChars.Road
abbrev wordsS : List Jvm.Cond := .stringLink ST 7 "" :: Bundle.stringAtoms
theorem e4_8 : decode New4.yB 8 = .ok (.aload_n 0, 1) := by decide +kernel
theorem e4_9 : decode New4.yB 9 = .ok (.ldc 7, 2) := by decide +kernel
theorem e4_11 : decode New4.yB 11 = .ok (.getfield 9, 3) := by decide +kernel
theorem e4_14 : decode New4.yB 14 = .ok (.putfield 9, 3) := by decide +kernel
theorem e4_17 : decode New4.yB 17 = .ok (.aload_n 0, 1) := by decide +kernel
theorem e4_18 : decode New4.yB 18 = .ok (.ldc 7, 2) := by decide +kernel
theorem e4_20 : decode New4.yB 20 = .ok (.getfield 15, 3) := by decide +kernel
theorem e4_23 : decode New4.yB 23 = .ok (.putfield 15, 3) := by decide +kernel
theorem e4_26 : decode New4.yB 26 = .ok (.return_, 1) := by decide +kernel
theorem pnS : plainName "java/lang/String" = true := by first | (simp [plainName, overriddenIn]; done) | decide +kernel
theorem ef4 (m : MethodId) (x b : Addr) : entryFrame m #[.ref x, .ref b, .int 0, .int 0, .null] 6 = mkF m 0 #[.val (.ref x), .val (.ref b), .val (.int 0), .val (.int 0), .val .null, .unset] [] := by first | (simp [entryFrame, mkF, argsToLocals, Value.category]; done) | rfl
theorem ef1 (m : MethodId) (x b : Addr) : entryFrame m #[.ref x, .ref b] 2 = mkF m 0 #[.val (.ref x), .val (.ref b)] [] := by first | (simp [entryFrame, mkF, argsToLocals, Value.category]; done) | rfl
section StrK
variable {p : Program} {l : Launch} {e : Env} {R : Room} {s : State} {m : MethodId} {args : Array Value} {below : List Frame} {meth : Method} {c : Code} {Z : State} {a0 : Array Value} {EL : List (String × Nat)} {own : String} {h0 : Heap} {ws : List Addr} {T T' : State} {h h' hB : Heap} {cells slots : Nat} {S : List Addr} {Q : Outcome → State → Prop} {pc pc' pc1 pc2 : Nat} {Ls l' : Array Slot} {rest st : List Value} {x y : Addr} {cs ds : List Int32}
/-- the String at x spells cs -/
def Str (Z : State) (h : Heap) (x : Addr) (cs : List Int32) : Prop :=
  Exa Z h x ST ∧ ∃ (t : Addr) (kb : ClassId) (cd N2 : Int32) (vs : List Value), Fld Z h x ST "value" "[B" (.ref t) ∧ Fld Z h x ST "coder" "B" (.int cd) ∧ Arv Z h t kb .byte N2 vs (.int 0) ∧ CodA cs cd N2 vs ∧ (∀ c ∈ cs, ¬ c < 0 ∧ ¬ (65535 : Int32) < c) ∧ cs.length ≤ 4000
theorem Str.ext (F : Str Z h x cs) (E : Ext h h') : Str Z h' x cs := by
  obtain ⟨a, t, kb, cd, N2, vs, q1, q2, q3, q4⟩ := F
  exact ⟨a.ext E, t, kb, cd, N2, vs, q1.ext E, q2.ext E, q3.ext E, q4⟩
theorem Str.low (A : Exa Z h x ST) {t : Addr} {kb : ClassId} {N : Int32} {n : Nat} (V : Fld Z h x ST "value" "[B" (.ref t)) (C : Fld Z h x ST "coder" "B" (.int 0)) (hn : cs.length = n) (hN : N = Int32.ofNat n) (K : Arv Z h t kb .byte N ((cs.map (fun c => c.toInt8.toInt32)).map Value.int) (.int 0)) (hp : ∀ c ∈ cs, ¬ c < 0 ∧ ¬ (255 : Int32) < c) (hl : n ≤ 4000) : Str Z h x cs := by
  subst hN hn
  refine ⟨A, t, kb, 0, _, _, V, C, K, codOf rfl fun c q => (hp c q).2, fun c q => ⟨(hp c q).1, fun z => (hp c q).2 ?_⟩, hl⟩
  have := Int32.lt_iff_toInt_lt.mp z
  rw [Int32.lt_iff_toInt_lt]
  have e1 : (65535 : Int32).toInt = 65535 := by decide
  have e2 : (255 : Int32).toInt = 255 := by decide
  omega
/-- new String(char[]): the constructor's call, of one to 4,000 signs below 256 -/
theorem w_strInitP (w : Wk p l e R s m args below meth c Z EL own h0 ws T h cells slots S) (hw1 : ∀ d ∈ StrChars.Road.words, d.before a0 Z = true) (wi : (Jvm.Cond.instantiable ST 4).before a0 Z = true) {index : Nat} (wl : (Jvm.Cond.methodLink own index New1.yN).before a0 Z = true) (wm : (Jvm.Cond.instanceMethod New1.yN).before a0 Z = true)
    {b : Addr} {v0 c0 : Value} {ka : ClassId} {N zc : Int32} {n W : Nat} {dv : Value} (E : Exa Z h x ST) (V : Fld Z h x ST "value" "[B" v0) (C : Fld Z h x ST "coder" "B" c0) (K : Arv Z h b ka .char N (cs.map Value.int) dv) (SC : Sta Z Z.heap ST "COMPACT_STRINGS" "Z" (.int zc)) (hz : ¬ zc = 0)
    (hn : cs.length = n) (hN : N = Int32.ofNat n) (h0n : 0 < n) (hl2 : n ≤ 4000) (hcs : ∀ c ∈ cs, ¬ c < 0 ∧ ¬ (255 : Int32) < c) (hxS : x ∈ S) (hx0 : x ∈ ws ∨ h0.size ≤ x) (hZx : Z.heap.size ≤ x) (hd : decode c.code pc = .ok (.invokespecial index, 3)) (hsz : Ls.size = c.maxLocals) (hW : (rest.map fun v => v.category).sum ≤ W) (hf : 4 ≤ R.frames) (hl : W + 65 ≤ R.locals) (hc : cells + 1 ≤ R.cells) (hsl : slots + n ≤ R.slots) (hp : pc + 3 = pc')
    (k : ∀ T' h', Wk p l e R s m args below meth c Z EL own h0 ws T' h' (cells + 1) (slots + n) S → Keep h h' [x] → Str Z h' x cs → Run p e below Q T' (mkF m pc' Ls rest)) : Run p e below Q T (mkF m pc Ls (.ref b :: .ref x :: rest)) := by
  obtain ⟨vm0, k0, locs, hx, X, eT, r⟩ := w
  obtain ⟨v, vm1, ⟨T', L', c', n'⟩, -, X', ⟨L, hQ, y1, y2, y3⟩, stp⟩ := X.specialBack hx (y := New1.yN) rfl r.ow (mvT r.hZ wl) (mvT r.hZ wm) (mvT r.hZ (hw1 _ (List.mem_of_getElem? (i := 0) rfl))) (by decide) (StrChars.Road.backV (W := W) r.hZ hw1 (kI := 4) wi (cs := cs) (bs := cs.map fun c => c.toInt8.toInt32) (n := n) (n0 := Z.heap.size) hZx r.old.1 E V C K (SC.ext r.old) hz hn hN h0n hl2 hcs rfl hf hl) (g := mkF m pc Ls (.ref b :: .ref x :: rest)) rfl hsz (Steps.refl _) (a := x) (argsL := [.ref b]) (rest := rest) (lenOf (by decide +kernel : parseMethodDescriptor "([C)V" = some ⟨[.array .char], none⟩) rfl) rfl (by show 2 * 0 + _ ≤ _; omega) hd (fun _ _ => ⟨rfl, eT, hc, hsl⟩)
  dsimp only [Pt.U, Pt.locs, Pt.cells, Pt.slots] at X' hQ y1 y2 y3 stp
  subst y1 y2 y3 hp
  obtain ⟨rfl, N', K', A, C', t, kb, -, -, -, V', B⟩ := hQ
  have Sx := (r.2.2.2.2.2.2.2.2.2 x hxS).2
  have hCr : CHr Z EL vm0 h vm0 T'.heap := CHr.keep K' (fun y q => by rw [List.mem_singleton.mp q]; exact Sx) r.ch
  obtain ⟨a1, a2, a3, a4, a5, a6, a7, a8, a9, a10⟩ := r
  have r' : Rs s m Z EL own h0 ws vm0 k0 (locs ++ L) T'.heap S := ⟨a1, Nat.le_trans a2 K'.1, a3, a4, a5.trans hCr, a6.app N', a7.trans K' (fun y q => by rw [List.mem_singleton.mp q]; exact hx0), a8, a9, fun y q => ⟨Nat.lt_of_lt_of_le (a10 y q).1 K'.1, hCr.safe (a10 y q).1 (a10 y q).2⟩⟩
  exact Run.stp stp (k T' T'.heap ⟨vm0, k0, _, hx, X', rfl, r'⟩ K' (Str.low A V' C' hn hN B hcs hl2))
/-- String.<init>(char[], int, int, Void) of an empty array -/
theorem init4_0 (hEL : EW Z a0 EL) (hmem : ("java/lang/String", 7) ∈ EL) (hw1 : ∀ d ∈ StrChars.Road.words, d.before a0 Z = true) (hw2 : ∀ d ∈ wordsS, d.before a0 Z = true) {x b : Addr} {v0 c0 : Value} (E : Exa Z h x ST) (V : Fld Z h x ST "value" "[B" v0) (C : Fld Z h x ST "coder" "B" c0) :
    Met l Z EL New4.yN New4.yB 6 none { frames := 1, cells := 4, slots := 8, locals := 12 } #[.ref x, .ref b, .int 0, .int 0, .null] h [x] [x] (fun v h' => v = none ∧ Exa Z h' x ST ∧ Fld Z h' x ST "coder" "B" (.int 0) ∧ ∃ t kb, Fld Z h' x ST "value" "[B" (.ref t) ∧ Arv Z h' t kb .byte 0 [] (.int 0)) := by
  have wS : ∀ d ∈ Bundle.stringAtoms, d.before a0 Z = true := fun d q => hw2 d (List.mem_cons_of_mem _ q)
  have wL : (Jvm.Cond.stringLink ST 7 "").before a0 Z = true := hw2 _ (List.mem_cons_self ..)
  have wi : (Jvm.Cond.instantiable ST 4).before a0 Z = true := wS _ (List.mem_of_getElem? (i := 1) rfl)
  have lv : (Jvm.Cond.laysFinal ST ST "value" "[B").before a0 Z = true := hw1 _ (List.mem_of_getElem? (i := 6) rfl)
  have lc : (Jvm.Cond.laysFinal ST ST "coder" "B").before a0 Z = true := hw1 _ (List.mem_of_getElem? (i := 8) rfl)
  have fv : (Jvm.Cond.fieldLink ST 9 ST "value" "[B").before a0 Z = true := hw1 _ (List.mem_of_getElem? (i := 7) rfl)
  have fc : (Jvm.Cond.fieldLink ST 15 ST "coder" "B").before a0 Z = true := hw1 _ (List.mem_of_getElem? (i := 9) rfl)
  refine Met.of (plainFor_of_name pnS) ?_
  intro p e s m below meth c T hnm hret hlk hby hml hs w
  refine Run.cast (ef4 m x b) ?_
  refine s_aload_n w (hb hby New4.d0) rfl rfl (pc' := 1) rfl ?_
  refine w_objInit w (hw1 _ (List.mem_of_getElem? (i := 10) rfl)) (hw1 _ (List.mem_of_getElem? (i := 11) rfl)) (hw1 _ (List.mem_of_getElem? (i := 12) rfl)) (hb hby New4.d1) (by rw [hml]; rfl) (by decide) (W := 0) (by decide) (by decide) (pc' := 4) rfl fun T w => ?_
  refine s_iload_n w (hb hby New4.d4) rfl (pc' := 5) rfl ?_
  refine s_if_ne w (hb hby New4.d5) (by decide) (pc1 := 8) rfl (pc2 := 27) rfl (fun _ => ?_) (fun q => absurd rfl q)
  refine s_aload_n w (hb hby e4_8) rfl rfl (pc' := 9) rfl ?_
  refine w_ldcS w hEL wL wS hmem (vs := []) (z := 0) (n := 0) ⟨by decide, rfl⟩ (by decide) rfl (by decide) (by decide) (hb hby e4_9) (pc' := 11) rfl (by decide) (by decide) fun T h1 q t kb w E1 A1 C1 V1 K1 N1 => ?_
  refine w_getF w fv Via.refl V1 (hb hby e4_11) (pc' := 14) rfl fun T w => ?_
  refine w_putF w fv Via.refl (V.ext E1) (E.ext E1) (Or.inr ⟨lv, rfl, hnm⟩) wi (ty := .array .byte) (by decide) rfl rfl (hb hby e4_14) (Or.inl (List.mem_singleton.mpr rfl)) (Or.inr (List.mem_singleton.mpr rfl)) (pc' := 17) rfl fun T h2 w W2 F2 X2 => ?_
  refine s_aload_n w (hb hby e4_17) rfl rfl (pc' := 18) rfl ?_
  refine w_ldcS w hEL wL wS hmem (vs := []) (z := 0) (n := 0) ⟨by decide, rfl⟩ (by decide) rfl (by decide) (by decide) (hb hby e4_18) (pc' := 20) rfl (by decide) (by decide) fun T h3 q' t' kb' w E3 A3 C3 V3 K3 N3 => ?_
  refine w_getF w fc Via.refl C3 (hb hby e4_20) (pc' := 23) rfl fun T w => ?_
  have ne : t ≠ x := fun z => (N1 x (List.mem_singleton.mpr rfl)).2 z.symm
  have sn : Jvm.RoadKit.slotOf Z ST "value" "[B" ≠ Jvm.RoadKit.slotOf Z ST "coder" "B" := slot_ne (Or.inr lv) (Or.inr lc) (by decide) (t := .array .byte) (t' := .byte) (by decide) (by decide)
  have C2 := (C.ext E1).other W2 (Or.inr sn.symm)
  refine w_putF w fc Via.refl (C2.ext E3) (X2.ext E3) (Or.inr ⟨lc, rfl, hnm⟩) wi (ty := .byte) (by decide) rfl rfl (hb hby e4_23) (Or.inl (List.mem_singleton.mpr rfl)) (Or.inr (List.mem_singleton.mpr rfl)) (pc' := 26) rfl fun T h4 w W4 F4 X4 => ?_
  refine w_return w hEL hs hlk hret (hb hby e4_26) (by decide) (by decide) ⟨rfl, X4, F4, t, kb, (F2.ext E3).other W4 (Or.inr sn), ((K1.other W2 ne).ext E3).other W4 ne⟩
theorem init1_0 (hEL : EW Z a0 EL) (hmem : ("java/lang/String", 7) ∈ EL) (hw1 : ∀ d ∈ StrChars.Road.words, d.before a0 Z = true) (hw2 : ∀ d ∈ wordsS, d.before a0 Z = true) {x b : Addr} {v0 c0 : Value} (E : Exa Z h x ST) (V : Fld Z h x ST "value" "[B" v0) (C : Fld Z h x ST "coder" "B" c0) {ka : ClassId} {vs : List Value} {dv : Value} (K : Arv Z h b ka .char 0 vs dv) :
    Met l Z EL New1.yN New1.yB 2 none { frames := 2, cells := 4, slots := 8, locals := 29 } #[.ref x, .ref b] h [x] [x] (fun v h' => v = none ∧ Exa Z h' x ST ∧ Fld Z h' x ST "coder" "B" (.int 0) ∧ ∃ t kb, Fld Z h' x ST "value" "[B" (.ref t) ∧ Arv Z h' t kb .byte 0 [] (.int 0)) := by
  refine Met.of (plainFor_of_name pnS) ?_
  intro p e s m below meth c T hnm hret hlk hby hml hs w
  refine Run.cast (ef1 m x b) ?_
  refine s_aload_n w (hb hby New1.d0) rfl rfl (pc' := 1) rfl ?_
  refine s_aload_n w (hb hby New1.d1) rfl rfl (pc' := 2) rfl ?_
  refine s_iconst w (hb hby New1.d2) (v := 0) rfl (pc' := 3) rfl ?_
  refine s_aload_n w (hb hby New1.d3) rfl rfl (pc' := 4) rfl ?_
  refine w_len w K (hb hby New1.d4) (pc' := 5) rfl ?_
  refine s_anull w (hb hby New1.d5) (pc' := 6) rfl ?_
  refine w_special w hEL (y := New4.yN) rfl (hw1 _ (List.mem_of_getElem? (i := 2) rfl)) (hw1 _ (List.mem_of_getElem? (i := 3) rfl)) (hw1 _ (List.mem_of_getElem? (i := 1) rfl)) (hw1 _ (List.mem_of_getElem? (i := 4) rfl)) (by decide) (init4_0 (b := b) hEL hmem hw1 hw2 E V C) (fun _ q => q) (fun _ q => Or.inl q) (argsL := [.ref b, .int 0, .int 0, .null]) (rest := []) (lenOf (by decide +kernel : parseMethodDescriptor "([CIILjava/lang/Void;)V" = some ⟨[.array .char, .int, .int, .object "java/lang/Void"], none⟩) rfl) rfl rfl (hb hby New1.d6) (by rw [hml]; rfl) (W := 0) (by decide) (by decide) (by decide) (by decide) (by decide) (pc' := 9) rfl fun v T h' w K' P' => ?_
  obtain ⟨rfl, q⟩ := P'
  exact w_return w hEL hs hlk hret (hb hby New1.d9) (by decide) (by decide) ⟨rfl, q⟩
/-- new String(char[]): the constructor's call, of no sign or of up to 4,000 signs below 256 -/
theorem w_strInit (w : Wk p l e R s m args below meth c Z EL own h0 ws T h cells slots S) (hEL : EW Z a0 EL) (hmem : ("java/lang/String", 7) ∈ EL) (hw1 : ∀ d ∈ StrChars.Road.words, d.before a0 Z = true) (hw2 : ∀ d ∈ wordsS, d.before a0 Z = true) {index : Nat} (wl : (Jvm.Cond.methodLink own index New1.yN).before a0 Z = true) (wm : (Jvm.Cond.instanceMethod New1.yN).before a0 Z = true)
    {b : Addr} {v0 c0 : Value} {ka : ClassId} {N zc : Int32} {n W : Nat} {dv : Value} (E : Exa Z h x ST) (V : Fld Z h x ST "value" "[B" v0) (C : Fld Z h x ST "coder" "B" c0) (K : Arv Z h b ka .char N (cs.map Value.int) dv) (SC : Sta Z Z.heap ST "COMPACT_STRINGS" "Z" (.int zc)) (hz : ¬ zc = 0)
    (hn : cs.length = n) (hN : N = Int32.ofNat n) (hl2 : n ≤ 4000) (hcs : ∀ c ∈ cs, ¬ c < 0 ∧ ¬ (255 : Int32) < c) (hxS : x ∈ S) (hx0 : x ∈ ws ∨ h0.size ≤ x) (hZx : Z.heap.size ≤ x) (hd : decode c.code pc = .ok (.invokespecial index, 3)) (hsz : Ls.size = c.maxLocals) (hW : (rest.map fun v => v.category).sum ≤ W) (hf : 4 ≤ R.frames) (hl : W + 65 ≤ R.locals) (hc : cells + 4 ≤ R.cells) (hsl : slots + (n + 8) ≤ R.slots) (hp : pc + 3 = pc')
    (k : ∀ T' h', Wk p l e R s m args below meth c Z EL own h0 ws T' h' (cells + 4) (slots + (n + 8)) S → Keep h h' [x] → Str Z h' x cs → Run p e below Q T' (mkF m pc' Ls rest)) : Run p e below Q T (mkF m pc Ls (.ref b :: .ref x :: rest)) := by
  by_cases h0n : n = 0
  · subst h0n
    obtain rfl : cs = [] := List.eq_nil_of_length_eq_zero hn
    subst hN
    refine w_special w hEL (y := New1.yN) rfl wl wm (hw1 _ (List.mem_of_getElem? (i := 1) rfl)) (hw1 _ (List.mem_of_getElem? (i := 0) rfl)) (by decide) (init1_0 hEL hmem hw1 hw2 E V C K) (fun y q => by rw [List.mem_singleton.mp q]; exact hxS) (fun y q => by rw [List.mem_singleton.mp q]; exact hx0) (argsL := [.ref b]) (rest := rest) (lenOf (by decide +kernel : parseMethodDescriptor "([C)V" = some ⟨[.array .char], none⟩) rfl) rfl rfl hd hsz (W := W) hW (by show 2 + 1 ≤ _; omega) (by show W + (2 + 11) + 29 ≤ _; omega) hc (by show slots + 8 ≤ _; omega) hp fun v T' h' w' K' P' => ?_
    obtain ⟨rfl, A, C', t, kb, V', B⟩ := P'
    exact k T' h' (w'.mono (Nat.le_refl _) (by show slots + 8 ≤ slots + (0 + 8); omega)) K' (Str.low A V' C' rfl rfl B hcs (by decide))
  · exact w_strInitP w hw1 (hw2 _ (List.mem_of_getElem? (i := 2) rfl)) wl wm E V C K SC hz hn hN (Nat.pos_of_ne_zero h0n) hl2 hcs hxS hx0 hZx hd hsz hW hf hl (by omega) (by omega) hp fun T' h' w' => k T' h' (w'.mono (by omega) (by omega))
/-- String.equals of two Strings -/
theorem w_strEq (w : Wk p l e R s m args below meth c Z EL own h0 ws T h cells slots S) (hwE : ∀ d ∈ StrChars.Road.wordsEq, d.before a0 Z = true) (wi : (Jvm.Cond.instantiable ST 4).before a0 Z = true) {index : Nat} (w1 : (Jvm.Cond.methodLink own index SEq.yN).before a0 Z = true) (w2 : (Jvm.Cond.declares SEq.yN).before a0 Z = true) (w3 : (Jvm.Cond.selects ST SEq.yN SEq.yN).before a0 Z = true) (w4 : (Jvm.Cond.instanceMethod SEq.yN).before a0 Z = true)
    {zc : Int32} {W : Nat} (X : Str Z h x cs) (Y : Str Z h y ds) (SC : Sta Z Z.heap ST "COMPACT_STRINGS" "Z" (.int zc)) (hz : ¬ zc = 0) (hd : decode c.code pc = .ok (.invokevirtual index, 3)) (hsz : Ls.size = c.maxLocals) (hW : (rest.map fun v => v.category).sum ≤ W) (hf : 2 ≤ R.frames) (hl : W + 28 ≤ R.locals) (hc : cells ≤ R.cells) (hsl : slots ≤ R.slots) (hp : pc + 3 = pc')
    (k : ∀ T' (b : Int32), Wk p l e R s m args below meth c Z EL own h0 ws T' h cells slots S → ((b = 1 ∧ cs = ds) ∨ (b = 0 ∧ ¬ cs = ds)) → Run p e below Q T' (mkF m pc' Ls (.int b :: rest))) : Run p e below Q T (mkF m pc Ls (.ref y :: .ref x :: rest)) := by
  obtain ⟨A, t, kb, cd, N2, vs, q1, q2, q3, q4, q5, q6⟩ := X
  obtain ⟨A', t', kb', cd', N2', vs', q1', q2', q3', q4', q5', q6'⟩ := Y
  have SC' := SC.ext w.old
  refine w_virtB w (y := SEq.yN) (y' := SEq.yN) (C := ST) w1 w2 w3 w3 w4 (by decide) A (Pv := fun v => (v = some (.int 1) ∧ cs = ds) ∨ (v = some (.int 0) ∧ ¬ cs = ds)) (as' := #[.ref x, .ref y]) (W := W) (fun vm0 hZ => StrChars.Road.eqW hZ hwE wi A q1 q2 q3 q4 q5 q6 A' q1' q2' q3' q4' q5' q6' SC' hz hf hl) (argsL := [.ref y]) (rest := rest) (lenOf (by decide +kernel : parseMethodDescriptor "(Ljava/lang/Object;)Z" = some ⟨[.object "java/lang/Object"], some .boolean⟩) rfl) rfl rfl hd hsz hW hc hsl hp fun v T' w' P' => ?_
  rcases P' with ⟨rfl, q⟩ | ⟨rfl, q⟩
  · exact k T' 1 w' (Or.inl ⟨rfl, q⟩)
  · exact k T' 0 w' (Or.inr ⟨rfl, q⟩)
end StrK
end Ow
end Jvm.Pilot.@@N@@


namespace Jvm.Pilot.@@N@@
open Jvm Jvm.ClassFile Sem Op Lib Jvm.Free Jvm.Stand Jvm.LawKit Jvm.RoadKit Bundle Jvm.Pilot.@@N@@.Jvm.D
namespace Ow
section Kit5
variable {p : Program} {l : Launch} {e : Env} {R : Room} {s : State} {m : MethodId} {args : Array Value} {below : List Frame} {meth : Method} {c : Code} {Z : State} {a0 : Array Value} {EL : List (String × Nat)} {own : String} {h0 : Heap} {ws : List Addr} {T T' : State} {h h' hB : Heap} {cells slots : Nat} {S : List Addr} {Q : Outcome → State → Prop} {pc pc' pc1 pc2 : Nat} {Ls l' : Array Slot} {rest st : List Value}
theorem w_clone (w : Wk p l e R s m args below meth c Z EL own h0 ws T h cells slots S) {ad : String} {index : Nat} (w1 : (Jvm.Cond.methodLink own index ⟨ad, "clone", "()Ljava/lang/Object;"⟩).before a0 Z = true) (w2 : (Jvm.Cond.sameMethod ad "java/lang/Object" "clone" "()Ljava/lang/Object;").before a0 Z = true) (w3 : (Jvm.Cond.native ⟨"java/lang/Object", "clone", "()Ljava/lang/Object;"⟩).before a0 Z = true)
    (w4 : (Jvm.Cond.instanceMethod ⟨"java/lang/Object", "clone", "()Ljava/lang/Object;"⟩).before a0 Z = true) (w5 : (Jvm.Cond.selects ad ⟨ad, "clone", "()Ljava/lang/Object;"⟩ ⟨"java/lang/Object", "clone", "()Ljava/lang/Object;"⟩).before a0 Z = true) (w6 : (Jvm.Cond.castable ad "java/lang/Cloneable").before a0 Z = true)
    {a : Addr} {k : ClassId} {ty : FieldType} {z : Int32} {vs : List Value} {dv : Value} {W cap : Nat} (F : Arv Z h a k ty z vs dv) (E : Exa Z h a ad) (hd : decode c.code pc = .ok (.invokevirtual index, 3)) (hsz : Ls.size = c.maxLocals) (hf : 1 ≤ R.frames) (hW : (rest.map fun v => v.category).sum ≤ W) (hl : W + 14 ≤ R.locals) (hcap : z.toNatClampNeg ≤ cap) (hc : cells + 1 ≤ R.cells) (hsl : slots + cap ≤ R.slots) (hp : pc + 3 = pc')
    (kk : ∀ T' h' x, Wk p l e R s m args below meth c Z EL own h0 ws T' h' (cells + 1) (slots + cap) S → Ext h h' → Arv Z h' x k ty z vs dv → Exa Z h' x ad → Run p e below Q T' (mkF m pc' Ls (.ref x :: rest))) : Run p e below Q T (mkF m pc Ls (.ref a :: rest)) := by
  obtain ⟨vm0, k0, locs, hx, X, eT, r⟩ := w
  obtain ⟨T', h', X', e', ex, A', E', st⟩ := cloneH X hx r.hZ r.ow w1 w2 w3 w4 w5 w6 eT F.arh E (g := mkF m pc Ls (.ref a :: rest)) rfl hsz (rest := rest) rfl hd hf (W := W) (by show 2 * 0 + _ ≤ _; omega) hl hcap hc hsl
  subst hp
  exact Run.to st (kk T' h' h.size ⟨vm0, k0, locs, hx, X', e', r.ext ex⟩ ex A' E')
theorem w_ldA (w : Wk p l e R s m args below meth c Z EL own h0 ws T h cells slots S) {a : Addr} {ka : ClassId} {ty : FieldType} {z j : Int32} {vs : List Value} {dv v : Value} (V : Arv Z h a ka ty z vs dv) (hty : ty.isReference = true) {i : Nat} (hj : ¬ j < 0) (hi : j.toNatClampNeg = i) (hiz : i < z.toNatClampNeg) (hv : vs.getD i dv = v) (hd : decode c.code pc = .ok (.aaload, 1)) (hp : pc + 1 = pc')
    (k : Run p e below Q T (mkF m pc' Ls (v :: rest))) : Run p e below Q T (mkF m pc Ls (.int j :: .ref a :: rest)) := by
  obtain ⟨vm0, k0, locs, hx, X, eT, r⟩ := w
  obtain ⟨cl, A, q1, q2, q3, q4, q5⟩ := V
  have hin : ¬ (j < 0 ∨ cl.slots.size ≤ j.toNatClampNeg) := by rw [q2, hi]; rintro (z | z); exact hj z; omega
  subst hp
  exact Run.to (X.aaload hx (j := j) (v := v) (by rw [eT]; exact A.1) (State.isArrayOf_alike r.hZ.alike A.2.1) hty A.2.2 hin (q4.at hin (by rw [hi]; exact hv)) (g := mkF m pc Ls (.int j :: .ref a :: rest)) rfl rfl hd) k
end Kit5
theorem fit_of {s : State} (hF : heapFits s = true) : Fit s := fun {y c} hc i hi => by
  obtain ⟨ha, rfl⟩ := Array.getElem?_eq_some_iff.mp hc
  have q := List.all_eq_true.mp ((Array.all_eq_true_iff_forall_mem.mp hF) _ (Array.getElem_mem ha)) i (List.mem_range.mpr hi)
  simpa [Array.getElem?_eq_getElem hi] using q
theorem eq_ref {args : Array Value} {s : State} {t u : Term} {a : Addr} (hu : u.eval args s none [] s = some (.ref a)) (h : (Jvm.Cond.eq t u).value args s none s [] = some true) : t.eval args s none [] s = some (.ref a) := by
  cases ht : t.eval args s none [] s with
  | none => simp [Jvm.Cond.value, ht] at h
  | some v => cases v <;> simp [Jvm.Cond.value, ht, hu] at h ⊢; exact h
theorem eq_nul {args : Array Value} {s : State} {t : Term} (h : (Jvm.Cond.eq t .null).value args s none s [] = some true) : t.eval args s none [] s = some .null := by
  have hu : (Term.null).eval args s none [] s = some .null := rfl
  cases ht : t.eval args s none [] s with
  | none => simp [Jvm.Cond.value, ht] at h
  | some v => cases v <;> simp [Jvm.Cond.value, ht, hu] at h ⊢
theorem hasL_of {c : Cell} {dv : Value} : ∀ (vs : List Value) (i : Nat), (∀ j, j < vs.length → c.slots[i + j]? = some (vs.getD j dv)) → HasL c i vs
  | [], _, _ => trivial
  | v :: r, i, H => ⟨H 0 (by simp), hasL_of r (i + 1) fun j hj => by
    have q := H (j + 1) (by simpa using hj)
    rw [show i + (j + 1) = i + 1 + j from by omega] at q
    simpa using q⟩
theorem arv_start {Z : State} {args : Array Value} {t : Term} {a : Addr} {ty : FieldType} {z : Int32} {vs : List Value} {dv : Value} (hf : Fit Z) (ev : t.eval args Z none [] Z = some (.ref a)) (hA : (Jvm.Cond.arrayOf t ty).value args Z none Z [] = some true) (hl : (Term.length t).eval args Z none [] Z = some (.int z)) (hz : ¬ z < 0) (hn : z.toNatClampNeg = vs.length) (hv : vs.length ≤ 4000)
    (H : ∀ j, j < vs.length → (Term.elem t (.int (Int32.ofNat j))).eval args Z none [] Z = some (vs.getD j dv)) : ∃ k, Arv Z Z.heap a k ty z vs dv := by
  obtain ⟨cl, A⟩ := Arr.start ev hA
  have ha : Z.arrayAt? a = some cl := Arr.fin (Vm.Alike.refl _) A
  have hq : cl.slots.size < 2 ^ 31 ∧ cl.slots.size.toInt32 = z := by
    simp only [Term.eval, ev, ha, Option.bind_eq_bind, Option.bind_some] at hl
    split at hl
    · rename_i q
      exact ⟨q, by simpa using hl⟩
    · simp at hl
  refine ⟨cl.cls, Arv.start hf A hq.1 hq.2 hz hn (hasL_of (dv := dv) vs 0 fun j hj => ?_)⟩
  have nl : ¬ (Int32.ofNat j) < 0 := by
    have e : (0 : Int32).toInt = 0 := rfl
    rw [Int32.lt_iff_toInt_lt, Int32.toInt_ofNat_of_lt (by omega), e]; omega
  have q := H j hj
  rw [elem_f ev (rfl : (Term.int (Int32.ofNat j)).eval args Z none [] Z = some (.int (Int32.ofNat j))) ha nl] at q
  have cl' : (Int32.ofNat j).toNatClampNeg = j := by
    show (Int32.ofNat j).toInt.toNat = j
    rw [Int32.toInt_ofNat_of_lt (by omega)]; rfl
  rw [cl'] at q
  rw [Nat.zero_add]; exact q
end Ow
end Jvm.Pilot.@@N@@

namespace Jvm.Pilot.@@N@@
open Jvm Jvm.ClassFile Sem Op Lib Jvm.Free Jvm.Stand Jvm.LawKit Jvm.RoadKit Bundle Jvm.Pilot.@@N@@.Jvm.D
namespace Ow
open StrChars StrChars.Road

/-! plain facts on ints -/
def Lat (c : Int32) : Prop := ¬ c < 0 ∧ ¬ (255 : Int32) < c
theorem i32_0 : (0 : Int32).toInt = 0 := by decide
theorem i32_255 : (255 : Int32).toInt = 255 := by decide
theorem lat_iff {c : Int32} : Lat c ↔ 0 ≤ c.toInt ∧ c.toInt ≤ 255 := by
  unfold Lat
  rw [Int32.lt_iff_toInt_lt, Int32.lt_iff_toInt_lt, i32_0, i32_255]
  omega
theorem nar_char (x : Int32) : nar .char x = x.toUInt32.toUInt16.toUInt32.toInt32 := rfl
theorem nar_id {c : Int32} (h : 0 ≤ c.toInt ∧ c.toInt < 65536) : nar .char c = c := by
  have q := c_i2c c
  rw [← nar_char] at q
  rw [← Int32.toInt_inj]
  omega
theorem Lat.nar {c : Int32} (h : Lat c) : nar .char c = c := nar_id (by have := lat_iff.mp h; omega)
theorem lat_mask (x : Int32) : Lat (Jvm.RoadKit.nar .char (x &&& 255)) := by
  have q := c_i2c (x &&& 255)
  rw [← nar_char] at q
  have m := c_mask x 255 8 (by decide) (by decide)
  rw [lat_iff]
  omega
theorem mask_le (x : Int32) (m : Int32) (k : Nat) (hk : k ≤ 31) (hm : m.toBitVec.toNat = 2 ^ k - 1) : 0 ≤ (x &&& m).toInt ∧ (x &&& m).toInt < (2 ^ k : Nat) := by
  rw [c_mask x m k hk hm]
  have : (0 : Int) < (2 ^ k : Nat) := by exact_mod_cast Nat.pos_of_ne_zero (by simp)
  exact ⟨Int.emod_nonneg _ (by omega), Int.emod_lt_of_pos _ this⟩
theorem toInt_eq {x y : Int32} {n : Int} (h : x.toInt = n) (hy : y.toInt = n) : x = y := Int32.toInt_inj.mp (h.trans hy.symm)
theorem and3 (x : Int32) : x &&& 3 = 0 ∨ x &&& 3 = 1 ∨ x &&& 3 = 2 ∨ x &&& 3 = 3 := by
  have m := mask_le x 3 2 (by decide) (by decide)
  have h : (x &&& 3).toInt = 0 ∨ (x &&& 3).toInt = 1 ∨ (x &&& 3).toInt = 2 ∨ (x &&& 3).toInt = 3 := by omega
  rcases h with h | h | h | h
  · exact Or.inl (toInt_eq h (by decide))
  · exact Or.inr (Or.inl (toInt_eq h (by decide)))
  · exact Or.inr (Or.inr (Or.inl (toInt_eq h (by decide))))
  · exact Or.inr (Or.inr (Or.inr (toInt_eq h (by decide))))
theorem rem3 (x : Int32) : (x &&& 3) % 3 = 0 ∨ (x &&& 3) % 3 = 1 ∨ (x &&& 3) % 3 = 2 := by
  rcases and3 x with h | h | h | h <;> rw [h] <;> decide
theorem ne_int {args : Array Value} {s : State} {t : Term} {n x : Int32} (ht : t.eval args s none [] s = some (.int x)) (h : (Jvm.Cond.not (.eq t (.int n))).before args s = true) : ¬ x = n := by
  intro q; subst q
  have h1 := not_v (Cond.before_iff.mp h)
  have hi : (Term.int x).eval args s none [] s = some (.int x) := rfl
  simp only [Jvm.Cond.value, ht, hi] at h1
  simp at h1
theorem eq_int {args : Array Value} {s : State} {t : Term} {n : Int32} (h : (Jvm.Cond.eq t (.int n)).value args s none s [] = some true) : t.eval args s none [] s = some (.int n) := by
  cases ht : t.eval args s none [] s with
  | none => simp [Jvm.Cond.value, ht] at h
  | some v => cases v <;> simp [Jvm.Cond.value, ht, Term.eval] at h ⊢; exact h
theorem flag {e : Int32} {A : Prop} (h : (e = 1 ∧ A) ∨ (e = 0 ∧ ¬ A)) : ¬ e = 0 ↔ A := by
  rcases h with ⟨rfl, q⟩ | ⟨rfl, q⟩
  · exact ⟨fun _ => q, fun _ => by decide⟩
  · exact ⟨fun z => absurd rfl z, fun z => absurd z q⟩
theorem val {e f : Int32} {A B : Prop} [Decidable B] (h : (e = 1 ∧ A) ∨ (e = 0 ∧ ¬ A)) (hf : (if B then (1 : Int32) else 0) = f) (hab : B ↔ A) : f = e := by
  rw [← hf]
  rcases h with ⟨rfl, q⟩ | ⟨rfl, q⟩
  · exact if_pos (hab.mpr q)
  · exact if_neg fun z => q (hab.mp z)

theorem sub1 : ∀ d ∈ StrChars.Road.words, d ∈ tables_1 := by decide +kernel
theorem subA : ∀ d ∈ Bundle.stringAtoms, d ∈ tables_1 := by decide +kernel
theorem sub2 : ∀ d ∈ wordsS, d ∈ tables_1 := by decide +kernel
theorem hmem : ("java/lang/String", 7) ∈ consts_1 := by decide
theorem subE : ∀ d ∈ StrChars.Road.wordsEq, d ∈ tables_1 := by decide +kernel
abbrev CH : String := "com/example/tuikuan/tuikuan/Channel"
abbrev CD : String := "Lcom/example/tuikuan/tuikuan/Channel;"
abbrev AD : String := "[Lcom/example/tuikuan/tuikuan/Channel;"
abbrev SD : String := "Ljava/lang/String;"
abbrev OPT : String := "java/util/Optional"
abbrev OD : String := "Ljava/util/Optional;"
abbrev OJ : String := "Ljava/lang/Object;"
def Gl (Z : State) (a0 : Array Value) (zc : Int32) (aD : Addr) (aG : Addr) (aT : Addr) (fD : Addr) (fG : Addr) (fT : Addr) (va : Addr) (eO : Addr) (kv : ClassId) : Prop :=
  (∀ d ∈ tables_1, d.before a0 Z = true) ∧ EW Z a0 consts_1 ∧ Sta Z Z.heap ST "COMPACT_STRINGS" "Z" (.int zc) ∧ ¬ zc = 0 ∧ (Sta Z Z.heap CH "DIRECT" CD (.ref aD)) ∧ (Sta Z Z.heap CH "GATEWAY" CD (.ref aG)) ∧ (Sta Z Z.heap CH "TRADE" CD (.ref aT)) ∧ (Sta Z Z.heap CH "$VALUES" AD (.ref va)) ∧ (Sta Z Z.heap OPT "EMPTY" OD (.ref eO)) ∧ (Exa Z Z.heap eO OPT) ∧ (Fld Z Z.heap eO OPT "value" OJ .null) ∧ (Exa Z Z.heap va AD) ∧ (Arv Z Z.heap va kv (.object CH) 3 [.ref aD, .ref aG, .ref aT] .null) ∧ (Exa Z Z.heap aD CH) ∧ (Exa Z Z.heap aG CH) ∧ (Exa Z Z.heap aT CH) ∧ (Fld Z Z.heap aD CH "fieldValue" SD (.ref fD)) ∧ (Fld Z Z.heap aG CH "fieldValue" SD (.ref fG)) ∧ (Fld Z Z.heap aT CH "fieldValue" SD (.ref fT)) ∧ (Str Z Z.heap fD [100, 105, 114, 101, 99, 116]) ∧ (Str Z Z.heap fG [103, 97, 116, 101, 119, 97, 121]) ∧ (Str Z Z.heap fT [116, 114, 97, 100, 101])
theorem mapI_getD {cs : List Int32} {j : Nat} (h : j < cs.length) : (cs.map Value.int).getD j (.int 0) = .int (cs.getD j 0) := by
  simp [List.getD, h]
theorem getD_memC {cs : List Int32} {j : Nat} (h : j < cs.length) : cs.getD j 0 ∈ cs := by simp [List.getD, h]
theorem remB (x b : Int32) (hb : 0 < b.toInt ∧ b.toInt ≤ 8) : ¬ ((x &&& 2147483647) % b) < 0 ∧ ((x &&& 2147483647) % b).toNatClampNeg < 8 := by
  have m := mask_le x 2147483647 31 (by decide) (by decide)
  have q := (c_iremV (x &&& 2147483647) b).1 m.1 hb.1
  refine ⟨by rw [Int32.lt_iff_toInt_lt, i32_0]; omega, ?_⟩
  show ((x &&& 2147483647) % b).toInt.toNat < 8
  omega
theorem doem_0 : decode jdk_32_method_1_code 0 = .ok (.getstatic 1, 3) := by decide +kernel
theorem doem_3 : decode jdk_32_method_1_code 3 = .ok (.astore_n 0, 1) := by decide +kernel
theorem doem_4 : decode jdk_32_method_1_code 4 = .ok (.aload_n 0, 1) := by decide +kernel
theorem doem_5 : decode jdk_32_method_1_code 5 = .ok (.areturn, 1) := by decide +kernel
theorem pn_0 : plainName "java/util/Optional" = true := by first | (simp [plainName, overriddenIn]; done) | decide +kernel
theorem ef_oem (m : MethodId)  : entryFrame m #[] 1 = mkF m 0 #[.unset] [] := by first | (simp [entryFrame, mkF, argsToLocals, Value.category]; done) | rfl
set_option maxRecDepth 65536 in
set_option maxHeartbeats 40000000 in
theorem rm_oem {l : Launch} {Z : State} {a0 : Array Value} {zc : Int32} {aD : Addr} {aG : Addr} {aT : Addr} {fD : Addr} {fG : Addr} {fT : Addr} {va : Addr} {eO : Addr} {kv : ClassId} (G : Gl Z a0 zc aD aG aT fD fG fT va eO kv) (h : Heap)   :
    Met l Z consts_1 (⟨"java/util/Optional", "empty", "()Ljava/util/Optional;"⟩ : MethodName) jdk_32_method_1_code 1 (some (.object "java/util/Optional")) ({ frames := 0, cells := 0, slots := 0, locals := 0 } : Room) #[] h [] [] (fun v h' => v = some (.ref eO) ∧ h = h') := by
  have G0 := G
  obtain ⟨hw, hEL, SC, hz, sD, sG, sT, sV, sE, xE, vE, xV, rV, xD, xG, xT, lD, lG, lT, tD, tG, tT⟩ := G
  have hw1 : ∀ d ∈ StrChars.Road.words, d.before a0 Z = true := fun d q => hw d (sub1 d q)
  have hwA : ∀ d ∈ Bundle.stringAtoms, d.before a0 Z = true := fun d q => hw d (subA d q)
  have hw2 : ∀ d ∈ wordsS, d.before a0 Z = true := fun d q => hw d (sub2 d q)
  have hwE : ∀ d ∈ StrChars.Road.wordsEq, d.before a0 Z = true := fun d q => hw d (subE d q)
  refine Met.of (plainFor_of_name pn_0) ?_
  intro p e s m below meth c T hnm hret hlk hby hml hs w
  have hZ0 := w.old
  refine Run.cast (ef_oem m ) ?_
  refine w_getS w (hw _ (List.mem_of_getElem? (i := 46) rfl)) Via.refl (sE.ext w.old) (hb hby doem_0) (pc' := 3) rfl fun T w => ?_
  refine s_astore_n w #[.val (.ref eO)] (hb hby doem_3) rfl rfl (pc' := 4) rfl ?_
  refine s_aload_n w (hb hby doem_4) rfl rfl (pc' := 5) rfl ?_
  exact w_areturn w hEL hs hlk hret rfl rfl (hb hby doem_5) (by decide) (by decide) ⟨rfl, rfl⟩
theorem dval_0 : decode prog_2_method_1_code 0 = .ok (.getstatic 13, 3) := by decide +kernel
theorem dval_3 : decode prog_2_method_1_code 3 = .ok (.invokevirtual 17, 3) := by decide +kernel
theorem dval_6 : decode prog_2_method_1_code 6 = .ok (.checkcast 18, 3) := by decide +kernel
theorem dval_9 : decode prog_2_method_1_code 9 = .ok (.areturn, 1) := by decide +kernel
theorem pn_1 : plainName "com/example/tuikuan/tuikuan/Channel" = true := by first | (simp [plainName, overriddenIn]; done) | decide +kernel
theorem ef_val (m : MethodId)  : entryFrame m #[] 0 = mkF m 0 #[] [] := by first | (simp [entryFrame, mkF, argsToLocals, Value.category]; done) | rfl
set_option maxRecDepth 65536 in
set_option maxHeartbeats 40000000 in
theorem rm_val {l : Launch} {Z : State} {a0 : Array Value} {zc : Int32} {aD : Addr} {aG : Addr} {aT : Addr} {fD : Addr} {fG : Addr} {fT : Addr} {va : Addr} {eO : Addr} {kv : ClassId} (G : Gl Z a0 zc aD aG aT fD fG fT va eO kv) (h : Heap)   :
    Met l Z consts_1 (⟨"com/example/tuikuan/tuikuan/Channel", "values", "()[Lcom/example/tuikuan/tuikuan/Channel;"⟩ : MethodName) prog_2_method_1_code 0 (some (.array (.object "com/example/tuikuan/tuikuan/Channel"))) ({ frames := 1, cells := 1, slots := 3, locals := 14 } : Room) #[] h [] [] (fun v h' => ∃ u, v = some (.ref u) ∧ Arv Z h' u kv (.object CH) 3 [.ref aD, .ref aG, .ref aT] .null) := by
  have G0 := G
  obtain ⟨hw, hEL, SC, hz, sD, sG, sT, sV, sE, xE, vE, xV, rV, xD, xG, xT, lD, lG, lT, tD, tG, tT⟩ := G
  have hw1 : ∀ d ∈ StrChars.Road.words, d.before a0 Z = true := fun d q => hw d (sub1 d q)
  have hwA : ∀ d ∈ Bundle.stringAtoms, d.before a0 Z = true := fun d q => hw d (subA d q)
  have hw2 : ∀ d ∈ wordsS, d.before a0 Z = true := fun d q => hw d (sub2 d q)
  have hwE : ∀ d ∈ StrChars.Road.wordsEq, d.before a0 Z = true := fun d q => hw d (subE d q)
  refine Met.of (plainFor_of_name pn_1) ?_
  intro p e s m below meth c T hnm hret hlk hby hml hs w
  have hZ0 := w.old
  refine Run.cast (ef_val m ) ?_
  refine w_getS w (hw _ (List.mem_of_getElem? (i := 50) rfl)) Via.refl (sV.ext w.old) (hb hby dval_0) (pc' := 3) rfl fun T w => ?_
  refine w_clone w (ad := AD) (hw _ (List.mem_of_getElem? (i := 52) rfl)) (hw _ (List.mem_of_getElem? (i := 53) rfl)) (hw _ (List.mem_of_getElem? (i := 57) rfl)) (hw _ (List.mem_of_getElem? (i := 55) rfl)) (hw _ (List.mem_of_getElem? (i := 56) rfl)) (hw _ (List.mem_of_getElem? (i := 58) rfl)) (rV.ext w.old) (xV.ext w.old) (hb hby dval_3) (by rw [hml]; rfl) (by decide) (W := 0) (Nat.le_of_eq rfl) (by decide) (cap := 3) (by decide) (by decide) (by decide) (pc' := 6) rfl fun T h1 x2 w E3 A4 X5 => ?_
  refine w_cast w (hw _ (List.mem_of_getElem? (i := 63) rfl)) (Ins.self X5) (hb hby dval_6) (pc' := 9) rfl fun T w => ?_
  exact w_areturn w hEL hs hlk hret rfl rfl (hb hby dval_9) (by decide) (by decide) ⟨x2, rfl, A4⟩
theorem drnn_0 : decode jdk_31_method_10_code 0 = .ok (.aload_n 0, 1) := by decide +kernel
theorem drnn_1 : decode jdk_31_method_10_code 1 = .ok (.ifnonnull 11, 3) := by decide +kernel
theorem drnn_4 : decode jdk_31_method_10_code 4 = .ok (.new 84, 3) := by decide +kernel
theorem drnn_7 : decode jdk_31_method_10_code 7 = .ok (.dup, 1) := by decide +kernel
theorem drnn_8 : decode jdk_31_method_10_code 8 = .ok (.invokespecial 86, 3) := by decide +kernel
theorem drnn_11 : decode jdk_31_method_10_code 11 = .ok (.athrow, 1) := by decide +kernel
theorem drnn_12 : decode jdk_31_method_10_code 12 = .ok (.aload_n 0, 1) := by decide +kernel
theorem drnn_13 : decode jdk_31_method_10_code 13 = .ok (.areturn, 1) := by decide +kernel
theorem pn_2 : plainName "java/util/Objects" = true := by first | (simp [plainName, overriddenIn]; done) | decide +kernel
theorem ef_rnn (m : MethodId) (x : Addr) : entryFrame m #[.ref x] 1 = mkF m 0 #[.val (.ref x)] [] := by first | (simp [entryFrame, mkF, argsToLocals, Value.category]; done) | rfl
set_option maxRecDepth 65536 in
set_option maxHeartbeats 40000000 in
theorem rm_rnn {l : Launch} {Z : State} {a0 : Array Value} {zc : Int32} {aD : Addr} {aG : Addr} {aT : Addr} {fD : Addr} {fG : Addr} {fT : Addr} {va : Addr} {eO : Addr} {kv : ClassId} (G : Gl Z a0 zc aD aG aT fD fG fT va eO kv) (h : Heap) (x : Addr)  :
    Met l Z consts_1 (⟨"java/util/Objects", "requireNonNull", "(Ljava/lang/Object;)Ljava/lang/Object;"⟩ : MethodName) jdk_31_method_10_code 1 (some (.object "java/lang/Object")) ({ frames := 0, cells := 0, slots := 0, locals := 0 } : Room) #[.ref x] h [] [] (fun v h' => v = some (.ref x) ∧ h = h') := by
  have G0 := G
  obtain ⟨hw, hEL, SC, hz, sD, sG, sT, sV, sE, xE, vE, xV, rV, xD, xG, xT, lD, lG, lT, tD, tG, tT⟩ := G
  have hw1 : ∀ d ∈ StrChars.Road.words, d.before a0 Z = true := fun d q => hw d (sub1 d q)
  have hwA : ∀ d ∈ Bundle.stringAtoms, d.before a0 Z = true := fun d q => hw d (subA d q)
  have hw2 : ∀ d ∈ wordsS, d.before a0 Z = true := fun d q => hw d (sub2 d q)
  have hwE : ∀ d ∈ StrChars.Road.wordsEq, d.before a0 Z = true := fun d q => hw d (subE d q)
  refine Met.of (plainFor_of_name pn_2) ?_
  intro p e s m below meth c T hnm hret hlk hby hml hs w
  have hZ0 := w.old
  refine Run.cast (ef_rnn m x) ?_
  refine s_aload_n w (hb hby drnn_0) rfl rfl (pc' := 1) rfl ?_
  refine s_ifnonnull_yes w (hb hby drnn_1) (by decide) (pc' := 12) rfl ?_
  refine s_aload_n w (hb hby drnn_12) rfl rfl (pc' := 13) rfl ?_
  exact w_areturn w hEL hs hlk hret rfl rfl (hb hby drnn_13) (by decide) (by decide) ⟨rfl, rfl⟩
theorem doin_0 : decode jdk_32_method_2_code 0 = .ok (.aload_n 0, 1) := by decide +kernel
theorem doin_1 : decode jdk_32_method_2_code 1 = .ok (.invokespecial 7, 3) := by decide +kernel
theorem doin_4 : decode jdk_32_method_2_code 4 = .ok (.aload_n 0, 1) := by decide +kernel
theorem doin_5 : decode jdk_32_method_2_code 5 = .ok (.aload_n 1, 1) := by decide +kernel
theorem doin_6 : decode jdk_32_method_2_code 6 = .ok (.putfield 13, 3) := by decide +kernel
theorem doin_9 : decode jdk_32_method_2_code 9 = .ok (.return_, 1) := by decide +kernel
theorem ef_oin (m : MethodId) (a : Addr) (x : Addr) : entryFrame m #[.ref a, .ref x] 2 = mkF m 0 #[.val (.ref a), .val (.ref x)] [] := by first | (simp [entryFrame, mkF, argsToLocals, Value.category]; done) | rfl
set_option maxRecDepth 65536 in
set_option maxHeartbeats 40000000 in
theorem rm_oin {l : Launch} {Z : State} {a0 : Array Value} {zc : Int32} {aD : Addr} {aG : Addr} {aT : Addr} {fD : Addr} {fG : Addr} {fT : Addr} {va : Addr} {eO : Addr} {kv : ClassId} (G : Gl Z a0 zc aD aG aT fD fG fT va eO kv) (h : Heap) (a : Addr) (x : Addr) (v0 : Value) (E0 : Exa Z h a OPT) (F : Fld Z h a OPT "value" OJ v0) :
    Met l Z consts_1 (⟨"java/util/Optional", "<init>", "(Ljava/lang/Object;)V"⟩ : MethodName) jdk_32_method_2_code 2 none ({ frames := 1, cells := 0, slots := 0, locals := 12 } : Room) #[.ref a, .ref x] h [] [a] (fun v h' => v = none ∧ Exa Z h' a OPT ∧ Fld Z h' a OPT "value" OJ (.ref x)) := by
  have G0 := G
  obtain ⟨hw, hEL, SC, hz, sD, sG, sT, sV, sE, xE, vE, xV, rV, xD, xG, xT, lD, lG, lT, tD, tG, tT⟩ := G
  have hw1 : ∀ d ∈ StrChars.Road.words, d.before a0 Z = true := fun d q => hw d (sub1 d q)
  have hwA : ∀ d ∈ Bundle.stringAtoms, d.before a0 Z = true := fun d q => hw d (subA d q)
  have hw2 : ∀ d ∈ wordsS, d.before a0 Z = true := fun d q => hw d (sub2 d q)
  have hwE : ∀ d ∈ StrChars.Road.wordsEq, d.before a0 Z = true := fun d q => hw d (subE d q)
  refine Met.of (plainFor_of_name pn_0) ?_
  intro p e s m below meth c T hnm hret hlk hby hml hs w
  have hZ0 := w.old
  refine Run.cast (ef_oin m a x) ?_
  refine s_aload_n w (hb hby doin_0) rfl rfl (pc' := 1) rfl ?_
  refine w_objInit w (hw _ (List.mem_of_getElem? (i := 104) rfl)) (hw _ (List.mem_of_getElem? (i := 20) rfl)) (hw _ (List.mem_of_getElem? (i := 21) rfl)) (hb hby doin_1) (by rw [hml]; rfl) (by decide) (W := 0) (Nat.le_of_eq rfl) (by decide) (pc' := 4) rfl fun T w => ?_
  refine s_aload_n w (hb hby doin_4) rfl rfl (pc' := 5) rfl ?_
  refine s_aload_n w (hb hby doin_5) rfl rfl (pc' := 6) rfl ?_
  refine w_putF w (hw _ (List.mem_of_getElem? (i := 88) rfl)) Via.refl F E0 (Or.inr ⟨(hw _ (List.mem_of_getElem? (i := 89) rfl)), rfl, hnm⟩) (hw _ (List.mem_of_getElem? (i := 95) rfl)) (ty := (.object "java/lang/Object")) (by decide) rfl rfl (hb hby doin_6) (Or.inl (List.mem_singleton.mpr rfl)) (Or.inl ⟨by decide, by decide⟩) (pc' := 9) rfl fun T g1 w W1 F1 X1 => ?_
  exact w_return w hEL hs hlk hret (hb hby doin_9) (by decide) (by decide) ⟨rfl, X1, F1⟩
theorem doof_0 : decode jdk_32_method_3_code 0 = .ok (.new 2, 3) := by decide +kernel
theorem doof_3 : decode jdk_32_method_3_code 3 = .ok (.dup, 1) := by decide +kernel
theorem doof_4 : decode jdk_32_method_3_code 4 = .ok (.aload_n 0, 1) := by decide +kernel
theorem doof_5 : decode jdk_32_method_3_code 5 = .ok (.invokestatic 17, 3) := by decide +kernel
theorem doof_8 : decode jdk_32_method_3_code 8 = .ok (.invokespecial 23, 3) := by decide +kernel
theorem doof_11 : decode jdk_32_method_3_code 11 = .ok (.areturn, 1) := by decide +kernel
theorem ef_oof (m : MethodId) (x : Addr) : entryFrame m #[.ref x] 1 = mkF m 0 #[.val (.ref x)] [] := by first | (simp [entryFrame, mkF, argsToLocals, Value.category]; done) | rfl
set_option maxRecDepth 65536 in
set_option maxHeartbeats 40000000 in
theorem rm_oof {l : Launch} {Z : State} {a0 : Array Value} {zc : Int32} {aD : Addr} {aG : Addr} {aT : Addr} {fD : Addr} {fG : Addr} {fT : Addr} {va : Addr} {eO : Addr} {kv : ClassId} (G : Gl Z a0 zc aD aG aT fD fG fT va eO kv) (h : Heap) (x : Addr)  :
    Met l Z consts_1 (⟨"java/util/Optional", "of", "(Ljava/lang/Object;)Ljava/util/Optional;"⟩ : MethodName) jdk_32_method_3_code 1 (some (.object "java/util/Optional")) ({ frames := 2, cells := 1, slots := 1, locals := 26 } : Room) #[.ref x] h [] [] (fun v h' => ∃ o, v = some (.ref o) ∧ Exa Z h' o OPT ∧ Fld Z h' o OPT "value" OJ (.ref x)) := by
  have G0 := G
  obtain ⟨hw, hEL, SC, hz, sD, sG, sT, sV, sE, xE, vE, xV, rV, xD, xG, xT, lD, lG, lT, tD, tG, tT⟩ := G
  have hw1 : ∀ d ∈ StrChars.Road.words, d.before a0 Z = true := fun d q => hw d (sub1 d q)
  have hwA : ∀ d ∈ Bundle.stringAtoms, d.before a0 Z = true := fun d q => hw d (subA d q)
  have hw2 : ∀ d ∈ wordsS, d.before a0 Z = true := fun d q => hw d (sub2 d q)
  have hwE : ∀ d ∈ StrChars.Road.wordsEq, d.before a0 Z = true := fun d q => hw d (subE d q)
  refine Met.of (plainFor_of_name pn_0) ?_
  intro p e s m below meth c T hnm hret hlk hby hml hs w
  have hZ0 := w.old
  refine Run.cast (ef_oof m x) ?_
  refine w_new w (hw _ (List.mem_of_getElem? (i := 94) rfl)) (hw _ (List.mem_of_getElem? (i := 95) rfl)) (hw _ (List.mem_of_getElem? (i := 44) rfl)) (hb hby doof_0) (pc' := 3) rfl (by decide) (by decide) fun T h1 x2 w E3 q4 r5 A6 D7 => ?_
  have F_value_x2 : Fld Z h1 x2 "java/util/Optional" "value" "Ljava/lang/Object;" (.null) := D7 (Or.inr (hw _ (List.mem_of_getElem? (i := 89) rfl))) (ty := (.object "java/lang/Object")) (by decide)
  refine s_dup w (hb hby doof_3) rfl (pc' := 4) rfl ?_
  refine s_aload_n w (hb hby doof_4) rfl rfl (pc' := 5) rfl ?_
  refine w_staticN w hEL (y := (⟨"java/util/Objects", "requireNonNull", "(Ljava/lang/Object;)Ljava/lang/Object;"⟩ : MethodName)) (hw _ (List.mem_of_getElem? (i := 96) rfl)) (hw _ (List.mem_of_getElem? (i := 97) rfl)) (hw _ (List.mem_of_getElem? (i := 98) rfl)) (hw _ (List.mem_of_getElem? (i := 99) rfl)) (by decide) (rm_rnn G0 h1 x) all0 all0 (argsL := [.ref x]) (rest := [.ref x2, .ref x2]) (lenOf (by decide +kernel : parseMethodDescriptor "(Ljava/lang/Object;)Ljava/lang/Object;" = some ⟨[(.object "java/lang/Object")], (some (.object "java/lang/Object"))⟩) rfl) rfl rfl (hb hby doof_5) (by rw [hml]; rfl) (W := 2) (Nat.le_of_eq rfl) (by decide) (by decide) (by decide) (by decide) (pc' := 8) rfl fun u8 N9 T h10 w K11 P12 => ?_
  obtain ⟨rfl, P13⟩ := P12
  obtain ⟨rfl, rfl⟩ := P13
  show Run p e below _ T (mkF m 8 #[.val (.ref x)] [.ref x, .ref x2, .ref x2])
  refine w_specialN w hEL (y := (⟨"java/util/Optional", "<init>", "(Ljava/lang/Object;)V"⟩ : MethodName)) (a := x2) rfl (hw _ (List.mem_of_getElem? (i := 100) rfl)) (hw _ (List.mem_of_getElem? (i := 101) rfl)) (hw _ (List.mem_of_getElem? (i := 44) rfl)) (hw _ (List.mem_of_getElem? (i := 103) rfl)) (by decide) (rm_oin G0 h1 x2 x _ A6 F_value_x2) all0 (allS (Or.inr r5) all0) (argsL := [.ref x]) (rest := [.ref x2]) (lenOf (by decide +kernel : parseMethodDescriptor "(Ljava/lang/Object;)V" = some ⟨[(.object "java/lang/Object")], none⟩) rfl) rfl rfl (hb hby doof_8) (by rw [hml]; rfl) (W := 1) (Nat.le_of_eq rfl) (by decide) (by decide) (by decide) (by decide) (pc' := 11) rfl fun u14 N15 T h16 w K17 P18 => ?_
  obtain ⟨rfl, P19⟩ := P18
  obtain ⟨rfl, A9, F9⟩ := P19
  have E20 := Ext.kp E3 K17 (allS q4 all0)
  show Run p e below _ T (mkF m 11 #[.val (.ref x)] [.ref x2])
  exact w_areturn w hEL hs hlk hret rfl rfl (hb hby doof_11) (by decide) (by decide) ⟨x2, rfl, A9, F9⟩
theorem dip0_0 : decode jdk_32_method_6_code 0 = .ok (.aload_n 0, 1) := by decide +kernel
theorem dip0_1 : decode jdk_32_method_6_code 1 = .ok (.getfield 13, 3) := by decide +kernel
theorem dip0_4 : decode jdk_32_method_6_code 4 = .ok (.ifnull 7, 3) := by decide +kernel
theorem dip0_7 : decode jdk_32_method_6_code 7 = .ok (.iconst 1, 1) := by decide +kernel
theorem dip0_8 : decode jdk_32_method_6_code 8 = .ok (.goto 4, 3) := by decide +kernel
theorem dip0_11 : decode jdk_32_method_6_code 11 = .ok (.iconst 0, 1) := by decide +kernel
theorem dip0_12 : decode jdk_32_method_6_code 12 = .ok (.ireturn, 1) := by decide +kernel
theorem ef_ip0 (m : MethodId) (a : Addr) : entryFrame m #[.ref a] 1 = mkF m 0 #[.val (.ref a)] [] := by first | (simp [entryFrame, mkF, argsToLocals, Value.category]; done) | rfl
set_option maxRecDepth 65536 in
set_option maxHeartbeats 40000000 in
theorem rm_ip0 {l : Launch} {Z : State} {a0 : Array Value} {zc : Int32} {aD : Addr} {aG : Addr} {aT : Addr} {fD : Addr} {fG : Addr} {fT : Addr} {va : Addr} {eO : Addr} {kv : ClassId} (G : Gl Z a0 zc aD aG aT fD fG fT va eO kv) (h : Heap) (a : Addr) (F : Fld Z h a OPT "value" OJ .null) :
    Met l Z consts_1 (⟨"java/util/Optional", "isPresent", "()Z"⟩ : MethodName) jdk_32_method_6_code 1 (some .boolean) ({ frames := 0, cells := 0, slots := 0, locals := 0 } : Room) #[.ref a] h [] [] (fun v h' => v = some (.int 0) ∧ h = h') := by
  have G0 := G
  obtain ⟨hw, hEL, SC, hz, sD, sG, sT, sV, sE, xE, vE, xV, rV, xD, xG, xT, lD, lG, lT, tD, tG, tT⟩ := G
  have hw1 : ∀ d ∈ StrChars.Road.words, d.before a0 Z = true := fun d q => hw d (sub1 d q)
  have hwA : ∀ d ∈ Bundle.stringAtoms, d.before a0 Z = true := fun d q => hw d (subA d q)
  have hw2 : ∀ d ∈ wordsS, d.before a0 Z = true := fun d q => hw d (sub2 d q)
  have hwE : ∀ d ∈ StrChars.Road.wordsEq, d.before a0 Z = true := fun d q => hw d (subE d q)
  refine Met.of (plainFor_of_name pn_0) ?_
  intro p e s m below meth c T hnm hret hlk hby hml hs w
  have hZ0 := w.old
  refine Run.cast (ef_ip0 m a) ?_
  refine s_aload_n w (hb hby dip0_0) rfl rfl (pc' := 1) rfl ?_
  refine w_getF w (hw _ (List.mem_of_getElem? (i := 88) rfl)) Via.refl F (hb hby dip0_1) (pc' := 4) rfl fun T w => ?_
  refine s_ifnull_yes w (hb hby dip0_4) (by decide) (pc' := 11) rfl ?_
  refine s_iconst w (hb hby dip0_11) (v := 0) rfl (pc' := 12) rfl ?_
  exact w_ireturn w hEL hs hlk hret rfl (Or.inr (Or.inl rfl)) (hb hby dip0_12) (by decide) (by decide) ⟨rfl, rfl⟩
theorem ef_ip1 (m : MethodId) (a : Addr) : entryFrame m #[.ref a] 1 = mkF m 0 #[.val (.ref a)] [] := by first | (simp [entryFrame, mkF, argsToLocals, Value.category]; done) | rfl
set_option maxRecDepth 65536 in
set_option maxHeartbeats 40000000 in
theorem rm_ip1 {l : Launch} {Z : State} {a0 : Array Value} {zc : Int32} {aD : Addr} {aG : Addr} {aT : Addr} {fD : Addr} {fG : Addr} {fT : Addr} {va : Addr} {eO : Addr} {kv : ClassId} (G : Gl Z a0 zc aD aG aT fD fG fT va eO kv) (h : Heap) (a : Addr) (y : Addr) (F : Fld Z h a OPT "value" OJ (.ref y)) :
    Met l Z consts_1 (⟨"java/util/Optional", "isPresent", "()Z"⟩ : MethodName) jdk_32_method_6_code 1 (some .boolean) ({ frames := 0, cells := 0, slots := 0, locals := 0 } : Room) #[.ref a] h [] [] (fun v h' => v = some (.int 1) ∧ h = h') := by
  have G0 := G
  obtain ⟨hw, hEL, SC, hz, sD, sG, sT, sV, sE, xE, vE, xV, rV, xD, xG, xT, lD, lG, lT, tD, tG, tT⟩ := G
  have hw1 : ∀ d ∈ StrChars.Road.words, d.before a0 Z = true := fun d q => hw d (sub1 d q)
  have hwA : ∀ d ∈ Bundle.stringAtoms, d.before a0 Z = true := fun d q => hw d (subA d q)
  have hw2 : ∀ d ∈ wordsS, d.before a0 Z = true := fun d q => hw d (sub2 d q)
  have hwE : ∀ d ∈ StrChars.Road.wordsEq, d.before a0 Z = true := fun d q => hw d (subE d q)
  refine Met.of (plainFor_of_name pn_0) ?_
  intro p e s m below meth c T hnm hret hlk hby hml hs w
  have hZ0 := w.old
  refine Run.cast (ef_ip1 m a) ?_
  refine s_aload_n w (hb hby dip0_0) rfl rfl (pc' := 1) rfl ?_
  refine w_getF w (hw _ (List.mem_of_getElem? (i := 88) rfl)) Via.refl F (hb hby dip0_1) (pc' := 4) rfl fun T w => ?_
  refine s_ifnull_no w (hb hby dip0_4) (pc' := 7) rfl ?_
  refine s_iconst w (hb hby dip0_7) (v := 1) rfl (pc' := 8) rfl ?_
  refine s_goto w (hb hby dip0_8) (by decide) (pc' := 12) rfl ?_
  exact w_ireturn w hEL hs hlk hret rfl (Or.inr (Or.inl rfl)) (hb hby dip0_12) (by decide) (by decide) ⟨rfl, rfl⟩
theorem dget_0 : decode jdk_32_method_5_code 0 = .ok (.aload_n 0, 1) := by decide +kernel
theorem dget_1 : decode jdk_32_method_5_code 1 = .ok (.getfield 13, 3) := by decide +kernel
theorem dget_4 : decode jdk_32_method_5_code 4 = .ok (.ifnonnull 13, 3) := by decide +kernel
theorem dget_7 : decode jdk_32_method_5_code 7 = .ok (.new 26, 3) := by decide +kernel
theorem dget_10 : decode jdk_32_method_5_code 10 = .ok (.dup, 1) := by decide +kernel
theorem dget_11 : decode jdk_32_method_5_code 11 = .ok (.ldc 28, 2) := by decide +kernel
theorem dget_13 : decode jdk_32_method_5_code 13 = .ok (.invokespecial 30, 3) := by decide +kernel
theorem dget_16 : decode jdk_32_method_5_code 16 = .ok (.athrow, 1) := by decide +kernel
theorem dget_17 : decode jdk_32_method_5_code 17 = .ok (.aload_n 0, 1) := by decide +kernel
theorem dget_18 : decode jdk_32_method_5_code 18 = .ok (.getfield 13, 3) := by decide +kernel
theorem dget_21 : decode jdk_32_method_5_code 21 = .ok (.areturn, 1) := by decide +kernel
theorem ef_get (m : MethodId) (a : Addr) : entryFrame m #[.ref a] 1 = mkF m 0 #[.val (.ref a)] [] := by first | (simp [entryFrame, mkF, argsToLocals, Value.category]; done) | rfl
set_option maxRecDepth 65536 in
set_option maxHeartbeats 40000000 in
theorem rm_get {l : Launch} {Z : State} {a0 : Array Value} {zc : Int32} {aD : Addr} {aG : Addr} {aT : Addr} {fD : Addr} {fG : Addr} {fT : Addr} {va : Addr} {eO : Addr} {kv : ClassId} (G : Gl Z a0 zc aD aG aT fD fG fT va eO kv) (h : Heap) (a : Addr) (y : Addr) (F : Fld Z h a OPT "value" OJ (.ref y)) :
    Met l Z consts_1 (⟨"java/util/Optional", "get", "()Ljava/lang/Object;"⟩ : MethodName) jdk_32_method_5_code 1 (some (.object "java/lang/Object")) ({ frames := 0, cells := 0, slots := 0, locals := 0 } : Room) #[.ref a] h [] [] (fun v h' => v = some (.ref y) ∧ h = h') := by
  have G0 := G
  obtain ⟨hw, hEL, SC, hz, sD, sG, sT, sV, sE, xE, vE, xV, rV, xD, xG, xT, lD, lG, lT, tD, tG, tT⟩ := G
  have hw1 : ∀ d ∈ StrChars.Road.words, d.before a0 Z = true := fun d q => hw d (sub1 d q)
  have hwA : ∀ d ∈ Bundle.stringAtoms, d.before a0 Z = true := fun d q => hw d (subA d q)
  have hw2 : ∀ d ∈ wordsS, d.before a0 Z = true := fun d q => hw d (sub2 d q)
  have hwE : ∀ d ∈ StrChars.Road.wordsEq, d.before a0 Z = true := fun d q => hw d (subE d q)
  refine Met.of (plainFor_of_name pn_0) ?_
  intro p e s m below meth c T hnm hret hlk hby hml hs w
  have hZ0 := w.old
  refine Run.cast (ef_get m a) ?_
  refine s_aload_n w (hb hby dget_0) rfl rfl (pc' := 1) rfl ?_
  refine w_getF w (hw _ (List.mem_of_getElem? (i := 88) rfl)) Via.refl F (hb hby dget_1) (pc' := 4) rfl fun T w => ?_
  refine s_ifnonnull_yes w (hb hby dget_4) (by decide) (pc' := 17) rfl ?_
  refine s_aload_n w (hb hby dget_17) rfl rfl (pc' := 18) rfl ?_
  refine w_getF w (hw _ (List.mem_of_getElem? (i := 88) rfl)) Via.refl F (hb hby dget_18) (pc' := 21) rfl fun T w => ?_
  exact w_areturn w hEL hs hlk hret rfl rfl (hb hby dget_21) (by decide) (by decide) ⟨rfl, rfl⟩
theorem dfv_0 : decode prog_2_method_4_code 0 = .ok (.aload_n 0, 1) := by decide +kernel
theorem dfv_1 : decode prog_2_method_4_code 1 = .ok (.getfield 32, 3) := by decide +kernel
theorem dfv_4 : decode prog_2_method_4_code 4 = .ok (.areturn, 1) := by decide +kernel
theorem ef_fv (m : MethodId) (a : Addr) : entryFrame m #[.ref a] 1 = mkF m 0 #[.val (.ref a)] [] := by first | (simp [entryFrame, mkF, argsToLocals, Value.category]; done) | rfl
set_option maxRecDepth 65536 in
set_option maxHeartbeats 40000000 in
theorem rm_fv {l : Launch} {Z : State} {a0 : Array Value} {zc : Int32} {aD : Addr} {aG : Addr} {aT : Addr} {fD : Addr} {fG : Addr} {fT : Addr} {va : Addr} {eO : Addr} {kv : ClassId} (G : Gl Z a0 zc aD aG aT fD fG fT va eO kv) (h : Heap) (a : Addr) (y : Addr) (F : Fld Z h a CH "fieldValue" SD (.ref y)) :
    Met l Z consts_1 (⟨"com/example/tuikuan/tuikuan/Channel", "fieldValue", "()Ljava/lang/String;"⟩ : MethodName) prog_2_method_4_code 1 (some (.object "java/lang/String")) ({ frames := 0, cells := 0, slots := 0, locals := 0 } : Room) #[.ref a] h [] [] (fun v h' => v = some (.ref y) ∧ h = h') := by
  have G0 := G
  obtain ⟨hw, hEL, SC, hz, sD, sG, sT, sV, sE, xE, vE, xV, rV, xD, xG, xT, lD, lG, lT, tD, tG, tT⟩ := G
  have hw1 : ∀ d ∈ StrChars.Road.words, d.before a0 Z = true := fun d q => hw d (sub1 d q)
  have hwA : ∀ d ∈ Bundle.stringAtoms, d.before a0 Z = true := fun d q => hw d (subA d q)
  have hw2 : ∀ d ∈ wordsS, d.before a0 Z = true := fun d q => hw d (sub2 d q)
  have hwE : ∀ d ∈ StrChars.Road.wordsEq, d.before a0 Z = true := fun d q => hw d (subE d q)
  refine Met.of (plainFor_of_name pn_1) ?_
  intro p e s m below meth c T hnm hret hlk hby hml hs w
  have hZ0 := w.old
  refine Run.cast (ef_fv m a) ?_
  refine s_aload_n w (hb hby dfv_0) rfl rfl (pc' := 1) rfl ?_
  refine w_getF w (hw _ (List.mem_of_getElem? (i := 65) rfl)) Via.refl F (hb hby dfv_1) (pc' := 4) rfl fun T w => ?_
  exact w_areturn w hEL hs hlk hret rfl rfl (hb hby dfv_4) (by decide) (by decide) ⟨rfl, rfl⟩
theorem dnam_0 : decode prog_2_method_6_code 0 = .ok (.invokestatic 39, 3) := by decide +kernel
theorem dnam_3 : decode prog_2_method_6_code 3 = .ok (.astore_n 1, 1) := by decide +kernel
theorem dnam_4 : decode prog_2_method_6_code 4 = .ok (.invokestatic 45, 3) := by decide +kernel
theorem dnam_7 : decode prog_2_method_6_code 7 = .ok (.astore_n 2, 1) := by decide +kernel
theorem dnam_8 : decode prog_2_method_6_code 8 = .ok (.aload_n 2, 1) := by decide +kernel
theorem dnam_9 : decode prog_2_method_6_code 9 = .ok (.arraylength, 1) := by decide +kernel
theorem dnam_10 : decode prog_2_method_6_code 10 = .ok (.istore_n 3, 1) := by decide +kernel
theorem dnam_11 : decode prog_2_method_6_code 11 = .ok (.iconst 0, 1) := by decide +kernel
theorem dnam_12 : decode prog_2_method_6_code 12 = .ok (.istore 4, 2) := by decide +kernel
theorem dnam_14 : decode prog_2_method_6_code 14 = .ok (.iload 4, 2) := by decide +kernel
theorem dnam_16 : decode prog_2_method_6_code 16 = .ok (.iload_n 3, 1) := by decide +kernel
theorem dnam_17 : decode prog_2_method_6_code 17 = .ok (.if_icmp .ge 33, 3) := by decide +kernel
theorem dnam_20 : decode prog_2_method_6_code 20 = .ok (.aload_n 2, 1) := by decide +kernel
theorem dnam_21 : decode prog_2_method_6_code 21 = .ok (.iload 4, 2) := by decide +kernel
theorem dnam_23 : decode prog_2_method_6_code 23 = .ok (.aaload, 1) := by decide +kernel
theorem dnam_24 : decode prog_2_method_6_code 24 = .ok (.astore 5, 2) := by decide +kernel
theorem dnam_26 : decode prog_2_method_6_code 26 = .ok (.aload 5, 2) := by decide +kernel
theorem dnam_28 : decode prog_2_method_6_code 28 = .ok (.getfield 32, 3) := by decide +kernel
theorem dnam_31 : decode prog_2_method_6_code 31 = .ok (.aload_n 0, 1) := by decide +kernel
theorem dnam_32 : decode prog_2_method_6_code 32 = .ok (.invokevirtual 49, 3) := by decide +kernel
theorem dnam_35 : decode prog_2_method_6_code 35 = .ok (.ifCond .eq 9, 3) := by decide +kernel
theorem dnam_38 : decode prog_2_method_6_code 38 = .ok (.aload 5, 2) := by decide +kernel
theorem dnam_40 : decode prog_2_method_6_code 40 = .ok (.invokestatic 55, 3) := by decide +kernel
theorem dnam_43 : decode prog_2_method_6_code 43 = .ok (.astore_n 1, 1) := by decide +kernel
theorem dnam_44 : decode prog_2_method_6_code 44 = .ok (.iinc 4 1, 3) := by decide +kernel
theorem dnam_47 : decode prog_2_method_6_code 47 = .ok (.goto (-33), 3) := by decide +kernel
theorem dnam_50 : decode prog_2_method_6_code 50 = .ok (.aload_n 1, 1) := by decide +kernel
theorem dnam_51 : decode prog_2_method_6_code 51 = .ok (.areturn, 1) := by decide +kernel
theorem ef_nam (m : MethodId) (x : Addr) : entryFrame m #[.ref x] 6 = mkF m 0 #[.val (.ref x), .unset, .unset, .unset, .unset, .unset] [] := by first | (simp [entryFrame, mkF, argsToLocals, Value.category]; done) | rfl
set_option maxRecDepth 65536 in
set_option maxHeartbeats 40000000 in
theorem rm_nam {l : Launch} {Z : State} {a0 : Array Value} {zc : Int32} {aD : Addr} {aG : Addr} {aT : Addr} {fD : Addr} {fG : Addr} {fT : Addr} {va : Addr} {eO : Addr} {kv : ClassId} (G : Gl Z a0 zc aD aG aT fD fG fT va eO kv) (h : Heap) (x : Addr) (cs : List Int32) (Sx : Str Z h x cs) :
    Met l Z consts_1 (⟨"com/example/tuikuan/tuikuan/Channel", "named", "(Ljava/lang/String;)Ljava/util/Optional;"⟩ : MethodName) prog_2_method_6_code 6 (some (.object "java/util/Optional")) ({ frames := 3, cells := 2, slots := 4, locals := 38 } : Room) #[.ref x] h [] [] (fun v h' => ∃ o v0, v = some (.ref o) ∧ Exa Z h' o OPT ∧ Fld Z h' o OPT "value" OJ v0 ∧ v0 = (if [100, 105, 114, 101, 99, 116] = cs then .ref aD else if [103, 97, 116, 101, 119, 97, 121] = cs then .ref aG else if [116, 114, 97, 100, 101] = cs then .ref aT else .null)) := by
  have G0 := G
  obtain ⟨hw, hEL, SC, hz, sD, sG, sT, sV, sE, xE, vE, xV, rV, xD, xG, xT, lD, lG, lT, tD, tG, tT⟩ := G
  have hw1 : ∀ d ∈ StrChars.Road.words, d.before a0 Z = true := fun d q => hw d (sub1 d q)
  have hwA : ∀ d ∈ Bundle.stringAtoms, d.before a0 Z = true := fun d q => hw d (subA d q)
  have hw2 : ∀ d ∈ wordsS, d.before a0 Z = true := fun d q => hw d (sub2 d q)
  have hwE : ∀ d ∈ StrChars.Road.wordsEq, d.before a0 Z = true := fun d q => hw d (subE d q)
  refine Met.of (plainFor_of_name pn_1) ?_
  intro p e s m below meth c T hnm hret hlk hby hml hs w
  have hZ0 := w.old
  refine Run.cast (ef_nam m x) ?_
  refine w_staticN w hEL (y := (⟨"java/util/Optional", "empty", "()Ljava/util/Optional;"⟩ : MethodName)) (hw _ (List.mem_of_getElem? (i := 42) rfl)) (hw _ (List.mem_of_getElem? (i := 43) rfl)) (hw _ (List.mem_of_getElem? (i := 44) rfl)) (hw _ (List.mem_of_getElem? (i := 45) rfl)) (by decide) (rm_oem G0 h) all0 all0 (argsL := []) (rest := []) (lenOf (by decide +kernel : parseMethodDescriptor "()Ljava/util/Optional;" = some ⟨[], (some (.object "java/util/Optional"))⟩) rfl) rfl rfl (hb hby dnam_0) (by rw [hml]; rfl) (W := 0) (Nat.le_of_eq rfl) (by decide) (by decide) (by decide) (by decide) (pc' := 3) rfl fun u1 N2 T h3 w K4 P5 => ?_
  obtain ⟨rfl, P6⟩ := P5
  obtain ⟨rfl, rfl⟩ := P6
  show Run p e below _ T (mkF m 3 #[.val (.ref x), .unset, .unset, .unset, .unset, .unset] [.ref eO])
  refine s_astore_n w #[.val (.ref x), .val (.ref eO), .unset, .unset, .unset, .unset] (hb hby dnam_3) rfl rfl (pc' := 4) rfl ?_
  refine w_staticN w hEL (y := (⟨"com/example/tuikuan/tuikuan/Channel", "values", "()[Lcom/example/tuikuan/tuikuan/Channel;"⟩ : MethodName)) (hw _ (List.mem_of_getElem? (i := 47) rfl)) (hw _ (List.mem_of_getElem? (i := 48) rfl)) (hw _ (List.mem_of_getElem? (i := 40) rfl)) (hw _ (List.mem_of_getElem? (i := 49) rfl)) (by decide) (rm_val G0 h) all0 all0 (argsL := []) (rest := []) (lenOf (by decide +kernel : parseMethodDescriptor "()[Lcom/example/tuikuan/tuikuan/Channel;" = some ⟨[], (some (.array (.object "com/example/tuikuan/tuikuan/Channel")))⟩) rfl) rfl rfl (hb hby dnam_4) (by rw [hml]; rfl) (W := 0) (Nat.le_of_eq rfl) (by decide) (by decide) (by decide) (by decide) (pc' := 7) rfl fun u7 N8 T h9 w K10 P11 => ?_
  obtain ⟨rfl, P12⟩ := P11
  obtain ⟨u13, rfl, A14⟩ := P12
  have E15 := Keep.ext0 K10
  show Run p e below _ T (mkF m 7 #[.val (.ref x), .val (.ref eO), .unset, .unset, .unset, .unset] [.ref u13])
  refine s_astore_n w #[.val (.ref x), .val (.ref eO), .val (.ref u13), .unset, .unset, .unset] (hb hby dnam_7) rfl rfl (pc' := 8) rfl ?_
  refine s_aload_n w (hb hby dnam_8) rfl rfl (pc' := 9) rfl ?_
  refine w_len w A14 (hb hby dnam_9) (pc' := 10) rfl ?_
  refine s_istore_n w #[.val (.ref x), .val (.ref eO), .val (.ref u13), .val (.int 3), .unset, .unset] (hb hby dnam_10) rfl (pc' := 11) rfl ?_
  refine s_iconst w (hb hby dnam_11) (v := 0) rfl (pc' := 12) rfl ?_
  refine s_istore w #[.val (.ref x), .val (.ref eO), .val (.ref u13), .val (.int 3), .val (.int 0), .unset] (hb hby dnam_12) rfl (pc' := 14) rfl ?_
  refine s_iload w (hb hby dnam_14) rfl (pc' := 16) rfl ?_
  refine s_iload_n w (hb hby dnam_16) rfl (pc' := 17) rfl ?_
  refine s_icmp_ge w (hb hby dnam_17) (by decide) (pc1 := 20) rfl (pc2 := 50) rfl (fun _ => ?_) (fun q => absurd q (by decide))
  refine s_aload_n w (hb hby dnam_20) rfl rfl (pc' := 21) rfl ?_
  refine s_iload w (hb hby dnam_21) rfl (pc' := 23) rfl ?_
  refine w_ldA w A14 rfl (i := 0) (by decide) rfl (by decide) (v := .ref aD) rfl (hb hby dnam_23) (pc' := 24) rfl ?_
  refine s_astore w #[.val (.ref x), .val (.ref eO), .val (.ref u13), .val (.int 3), .val (.int 0), .val (.ref aD)] (hb hby dnam_24) rfl rfl (pc' := 26) rfl ?_
  refine s_aload w (hb hby dnam_26) rfl rfl (pc' := 28) rfl ?_
  refine w_getF w (hw _ (List.mem_of_getElem? (i := 65) rfl)) Via.refl ((lD.ext hZ0).ext E15) (hb hby dnam_28) (pc' := 31) rfl fun T w => ?_
  refine s_aload_n w (hb hby dnam_31) rfl rfl (pc' := 32) rfl ?_
  refine w_strEq w hwE (hw _ (List.mem_of_getElem? (i := 10) rfl)) (hw _ (List.mem_of_getElem? (i := 67) rfl)) (hw _ (List.mem_of_getElem? (i := 68) rfl)) (hw _ (List.mem_of_getElem? (i := 70) rfl)) (hw _ (List.mem_of_getElem? (i := 69) rfl)) ((tD.ext hZ0).ext E15) (Sx.ext E15) SC hz (hb hby dnam_32) (by rw [hml]; rfl) (W := 0) (Nat.le_of_eq rfl) (by decide) (by decide) (by decide) (by decide) (pc' := 35) rfl fun T z17 w hz18 => ?_
  refine s_if_eq w (hb hby dnam_35) (by decide) (pc1 := 38) rfl (pc2 := 44) rfl (fun ct19 => ?_) (fun ct19 => ?_)
  · have e0 := hz18.elim (fun q => q.2) (fun q => absurd q.1 ct19)
    refine s_aload w (hb hby dnam_38) rfl rfl (pc' := 40) rfl ?_
    refine w_staticN w hEL (y := (⟨"java/util/Optional", "of", "(Ljava/lang/Object;)Ljava/util/Optional;"⟩ : MethodName)) (hw _ (List.mem_of_getElem? (i := 91) rfl)) (hw _ (List.mem_of_getElem? (i := 92) rfl)) (hw _ (List.mem_of_getElem? (i := 44) rfl)) (hw _ (List.mem_of_getElem? (i := 93) rfl)) (by decide) (rm_oof G0 h9 aD) all0 all0 (argsL := [.ref aD]) (rest := []) (lenOf (by decide +kernel : parseMethodDescriptor "(Ljava/lang/Object;)Ljava/util/Optional;" = some ⟨[(.object "java/lang/Object")], (some (.object "java/util/Optional"))⟩) rfl) rfl rfl (hb hby dnam_40) (by rw [hml]; rfl) (W := 0) (Nat.le_of_eq rfl) (by decide) (by decide) (by decide) (by decide) (pc' := 43) rfl fun u20 N21 T h22 w K23 P24 => ?_
    obtain ⟨rfl, P25⟩ := P24
    obtain ⟨o26, rfl, E27, F28⟩ := P25
    have E29 := Keep.ext0 K23
    show Run p e below _ T (mkF m 43 #[.val (.ref x), .val (.ref eO), .val (.ref u13), .val (.int 3), .val (.int 0), .val (.ref aD)] [.ref o26])
    refine s_astore_n w #[.val (.ref x), .val (.ref o26), .val (.ref u13), .val (.int 3), .val (.int 0), .val (.ref aD)] (hb hby dnam_43) rfl rfl (pc' := 44) rfl ?_
    refine s_iinc w #[.val (.ref x), .val (.ref o26), .val (.ref u13), .val (.int 3), .val (.int (0 + 1)), .val (.ref aD)] (hb hby dnam_44) (v := 1) rfl rfl rfl (pc' := 47) rfl ?_
    show Run p e below _ T (mkF m 47 #[.val (.ref x), .val (.ref o26), .val (.ref u13), .val (.int 3), .val (.int 1), .val (.ref aD)] [])
    refine s_goto w (hb hby dnam_47) (by decide) (pc' := 14) rfl ?_
    refine s_iload w (hb hby dnam_14) rfl (pc' := 16) rfl ?_
    refine s_iload_n w (hb hby dnam_16) rfl (pc' := 17) rfl ?_
    refine s_icmp_ge w (hb hby dnam_17) (by decide) (pc1 := 20) rfl (pc2 := 50) rfl (fun _ => ?_) (fun q => absurd q (by decide))
    refine s_aload_n w (hb hby dnam_20) rfl rfl (pc' := 21) rfl ?_
    refine s_iload w (hb hby dnam_21) rfl (pc' := 23) rfl ?_
    refine w_ldA w (A14.ext E29) rfl (i := 1) (by decide) rfl (by decide) (v := .ref aG) rfl (hb hby dnam_23) (pc' := 24) rfl ?_
    refine s_astore w #[.val (.ref x), .val (.ref o26), .val (.ref u13), .val (.int 3), .val (.int 1), .val (.ref aG)] (hb hby dnam_24) rfl rfl (pc' := 26) rfl ?_
    refine s_aload w (hb hby dnam_26) rfl rfl (pc' := 28) rfl ?_
    refine w_getF w (hw _ (List.mem_of_getElem? (i := 65) rfl)) Via.refl (((lG.ext hZ0).ext E15).ext E29) (hb hby dnam_28) (pc' := 31) rfl fun T w => ?_
    refine s_aload_n w (hb hby dnam_31) rfl rfl (pc' := 32) rfl ?_
    refine w_strEq w hwE (hw _ (List.mem_of_getElem? (i := 10) rfl)) (hw _ (List.mem_of_getElem? (i := 67) rfl)) (hw _ (List.mem_of_getElem? (i := 68) rfl)) (hw _ (List.mem_of_getElem? (i := 70) rfl)) (hw _ (List.mem_of_getElem? (i := 69) rfl)) (((tG.ext hZ0).ext E15).ext E29) ((Sx.ext E15).ext E29) SC hz (hb hby dnam_32) (by rw [hml]; rfl) (W := 0) (Nat.le_of_eq rfl) (by decide) (by decide) (by decide) (by decide) (pc' := 35) rfl fun T z31 w hz32 => ?_
    refine s_if_eq w (hb hby dnam_35) (by decide) (pc1 := 38) rfl (pc2 := 44) rfl (fun ct33 => ?_) (fun ct33 => ?_)
    · have e1 := hz32.elim (fun q => q.2) (fun q => absurd q.1 ct33)
      exact absurd (e0.trans e1.symm) (by decide)
    · have e1 := hz32.elim (fun q => absurd (q.1.symm.trans ct33) (by decide)) (fun q => q.2)
      refine s_iinc w #[.val (.ref x), .val (.ref o26), .val (.ref u13), .val (.int 3), .val (.int (1 + 1)), .val (.ref aG)] (hb hby dnam_44) (v := 1) rfl rfl rfl (pc' := 47) rfl ?_
      show Run p e below _ T (mkF m 47 #[.val (.ref x), .val (.ref o26), .val (.ref u13), .val (.int 3), .val (.int 2), .val (.ref aG)] [])
      refine s_goto w (hb hby dnam_47) (by decide) (pc' := 14) rfl ?_
      refine s_iload w (hb hby dnam_14) rfl (pc' := 16) rfl ?_
      refine s_iload_n w (hb hby dnam_16) rfl (pc' := 17) rfl ?_
      refine s_icmp_ge w (hb hby dnam_17) (by decide) (pc1 := 20) rfl (pc2 := 50) rfl (fun _ => ?_) (fun q => absurd q (by decide))
      refine s_aload_n w (hb hby dnam_20) rfl rfl (pc' := 21) rfl ?_
      refine s_iload w (hb hby dnam_21) rfl (pc' := 23) rfl ?_
      refine w_ldA w (A14.ext E29) rfl (i := 2) (by decide) rfl (by decide) (v := .ref aT) rfl (hb hby dnam_23) (pc' := 24) rfl ?_
      refine s_astore w #[.val (.ref x), .val (.ref o26), .val (.ref u13), .val (.int 3), .val (.int 2), .val (.ref aT)] (hb hby dnam_24) rfl rfl (pc' := 26) rfl ?_
      refine s_aload w (hb hby dnam_26) rfl rfl (pc' := 28) rfl ?_
      refine w_getF w (hw _ (List.mem_of_getElem? (i := 65) rfl)) Via.refl (((lT.ext hZ0).ext E15).ext E29) (hb hby dnam_28) (pc' := 31) rfl fun T w => ?_
      refine s_aload_n w (hb hby dnam_31) rfl rfl (pc' := 32) rfl ?_
      refine w_strEq w hwE (hw _ (List.mem_of_getElem? (i := 10) rfl)) (hw _ (List.mem_of_getElem? (i := 67) rfl)) (hw _ (List.mem_of_getElem? (i := 68) rfl)) (hw _ (List.mem_of_getElem? (i := 70) rfl)) (hw _ (List.mem_of_getElem? (i := 69) rfl)) (((tT.ext hZ0).ext E15).ext E29) ((Sx.ext E15).ext E29) SC hz (hb hby dnam_32) (by rw [hml]; rfl) (W := 0) (Nat.le_of_eq rfl) (by decide) (by decide) (by decide) (by decide) (pc' := 35) rfl fun T z35 w hz36 => ?_
      refine s_if_eq w (hb hby dnam_35) (by decide) (pc1 := 38) rfl (pc2 := 44) rfl (fun ct37 => ?_) (fun ct37 => ?_)
      · have e2 := hz36.elim (fun q => q.2) (fun q => absurd q.1 ct37)
        exact absurd (e0.trans e2.symm) (by decide)
      · have e2 := hz36.elim (fun q => absurd (q.1.symm.trans ct37) (by decide)) (fun q => q.2)
        refine s_iinc w #[.val (.ref x), .val (.ref o26), .val (.ref u13), .val (.int 3), .val (.int (2 + 1)), .val (.ref aT)] (hb hby dnam_44) (v := 1) rfl rfl rfl (pc' := 47) rfl ?_
        show Run p e below _ T (mkF m 47 #[.val (.ref x), .val (.ref o26), .val (.ref u13), .val (.int 3), .val (.int 3), .val (.ref aT)] [])
        refine s_goto w (hb hby dnam_47) (by decide) (pc' := 14) rfl ?_
        refine s_iload w (hb hby dnam_14) rfl (pc' := 16) rfl ?_
        refine s_iload_n w (hb hby dnam_16) rfl (pc' := 17) rfl ?_
        refine s_icmp_ge w (hb hby dnam_17) (by decide) (pc1 := 20) rfl (pc2 := 50) rfl (fun q => absurd q (by decide)) (fun _ => ?_)
        refine s_aload_n w (hb hby dnam_50) rfl rfl (pc' := 51) rfl ?_
        exact w_areturn w hEL hs hlk hret rfl rfl (hb hby dnam_51) (by decide) (by decide) ⟨o26, _, rfl, E27, F28, by rw [if_pos e0]⟩
  · have e0 := hz18.elim (fun q => absurd (q.1.symm.trans ct19) (by decide)) (fun q => q.2)
    refine s_iinc w #[.val (.ref x), .val (.ref eO), .val (.ref u13), .val (.int 3), .val (.int (0 + 1)), .val (.ref aD)] (hb hby dnam_44) (v := 1) rfl rfl rfl (pc' := 47) rfl ?_
    show Run p e below _ T (mkF m 47 #[.val (.ref x), .val (.ref eO), .val (.ref u13), .val (.int 3), .val (.int 1), .val (.ref aD)] [])
    refine s_goto w (hb hby dnam_47) (by decide) (pc' := 14) rfl ?_
    refine s_iload w (hb hby dnam_14) rfl (pc' := 16) rfl ?_
    refine s_iload_n w (hb hby dnam_16) rfl (pc' := 17) rfl ?_
    refine s_icmp_ge w (hb hby dnam_17) (by decide) (pc1 := 20) rfl (pc2 := 50) rfl (fun _ => ?_) (fun q => absurd q (by decide))
    refine s_aload_n w (hb hby dnam_20) rfl rfl (pc' := 21) rfl ?_
    refine s_iload w (hb hby dnam_21) rfl (pc' := 23) rfl ?_
    refine w_ldA w A14 rfl (i := 1) (by decide) rfl (by decide) (v := .ref aG) rfl (hb hby dnam_23) (pc' := 24) rfl ?_
    refine s_astore w #[.val (.ref x), .val (.ref eO), .val (.ref u13), .val (.int 3), .val (.int 1), .val (.ref aG)] (hb hby dnam_24) rfl rfl (pc' := 26) rfl ?_
    refine s_aload w (hb hby dnam_26) rfl rfl (pc' := 28) rfl ?_
    refine w_getF w (hw _ (List.mem_of_getElem? (i := 65) rfl)) Via.refl ((lG.ext hZ0).ext E15) (hb hby dnam_28) (pc' := 31) rfl fun T w => ?_
    refine s_aload_n w (hb hby dnam_31) rfl rfl (pc' := 32) rfl ?_
    refine w_strEq w hwE (hw _ (List.mem_of_getElem? (i := 10) rfl)) (hw _ (List.mem_of_getElem? (i := 67) rfl)) (hw _ (List.mem_of_getElem? (i := 68) rfl)) (hw _ (List.mem_of_getElem? (i := 70) rfl)) (hw _ (List.mem_of_getElem? (i := 69) rfl)) ((tG.ext hZ0).ext E15) (Sx.ext E15) SC hz (hb hby dnam_32) (by rw [hml]; rfl) (W := 0) (Nat.le_of_eq rfl) (by decide) (by decide) (by decide) (by decide) (pc' := 35) rfl fun T z40 w hz41 => ?_
    refine s_if_eq w (hb hby dnam_35) (by decide) (pc1 := 38) rfl (pc2 := 44) rfl (fun ct42 => ?_) (fun ct42 => ?_)
    · have e1 := hz41.elim (fun q => q.2) (fun q => absurd q.1 ct42)
      refine s_aload w (hb hby dnam_38) rfl rfl (pc' := 40) rfl ?_
      refine w_staticN w hEL (y := (⟨"java/util/Optional", "of", "(Ljava/lang/Object;)Ljava/util/Optional;"⟩ : MethodName)) (hw _ (List.mem_of_getElem? (i := 91) rfl)) (hw _ (List.mem_of_getElem? (i := 92) rfl)) (hw _ (List.mem_of_getElem? (i := 44) rfl)) (hw _ (List.mem_of_getElem? (i := 93) rfl)) (by decide) (rm_oof G0 h9 aG) all0 all0 (argsL := [.ref aG]) (rest := []) (lenOf (by decide +kernel : parseMethodDescriptor "(Ljava/lang/Object;)Ljava/util/Optional;" = some ⟨[(.object "java/lang/Object")], (some (.object "java/util/Optional"))⟩) rfl) rfl rfl (hb hby dnam_40) (by rw [hml]; rfl) (W := 0) (Nat.le_of_eq rfl) (by decide) (by decide) (by decide) (by decide) (pc' := 43) rfl fun u43 N44 T h45 w K46 P47 => ?_
      obtain ⟨rfl, P48⟩ := P47
      obtain ⟨o49, rfl, E50, F51⟩ := P48
      have E52 := Keep.ext0 K46
      show Run p e below _ T (mkF m 43 #[.val (.ref x), .val (.ref eO), .val (.ref u13), .val (.int 3), .val (.int 1), .val (.ref aG)] [.ref o49])
      refine s_astore_n w #[.val (.ref x), .val (.ref o49), .val (.ref u13), .val (.int 3), .val (.int 1), .val (.ref aG)] (hb hby dnam_43) rfl rfl (pc' := 44) rfl ?_
      refine s_iinc w #[.val (.ref x), .val (.ref o49), .val (.ref u13), .val (.int 3), .val (.int (1 + 1)), .val (.ref aG)] (hb hby dnam_44) (v := 1) rfl rfl rfl (pc' := 47) rfl ?_
      show Run p e below _ T (mkF m 47 #[.val (.ref x), .val (.ref o49), .val (.ref u13), .val (.int 3), .val (.int 2), .val (.ref aG)] [])
      refine s_goto w (hb hby dnam_47) (by decide) (pc' := 14) rfl ?_
      refine s_iload w (hb hby dnam_14) rfl (pc' := 16) rfl ?_
      refine s_iload_n w (hb hby dnam_16) rfl (pc' := 17) rfl ?_
      refine s_icmp_ge w (hb hby dnam_17) (by decide) (pc1 := 20) rfl (pc2 := 50) rfl (fun _ => ?_) (fun q => absurd q (by decide))
      refine s_aload_n w (hb hby dnam_20) rfl rfl (pc' := 21) rfl ?_
      refine s_iload w (hb hby dnam_21) rfl (pc' := 23) rfl ?_
      refine w_ldA w (A14.ext E52) rfl (i := 2) (by decide) rfl (by decide) (v := .ref aT) rfl (hb hby dnam_23) (pc' := 24) rfl ?_
      refine s_astore w #[.val (.ref x), .val (.ref o49), .val (.ref u13), .val (.int 3), .val (.int 2), .val (.ref aT)] (hb hby dnam_24) rfl rfl (pc' := 26) rfl ?_
      refine s_aload w (hb hby dnam_26) rfl rfl (pc' := 28) rfl ?_
      refine w_getF w (hw _ (List.mem_of_getElem? (i := 65) rfl)) Via.refl (((lT.ext hZ0).ext E15).ext E52) (hb hby dnam_28) (pc' := 31) rfl fun T w => ?_
      refine s_aload_n w (hb hby dnam_31) rfl rfl (pc' := 32) rfl ?_
      refine w_strEq w hwE (hw _ (List.mem_of_getElem? (i := 10) rfl)) (hw _ (List.mem_of_getElem? (i := 67) rfl)) (hw _ (List.mem_of_getElem? (i := 68) rfl)) (hw _ (List.mem_of_getElem? (i := 70) rfl)) (hw _ (List.mem_of_getElem? (i := 69) rfl)) (((tT.ext hZ0).ext E15).ext E52) ((Sx.ext E15).ext E52) SC hz (hb hby dnam_32) (by rw [hml]; rfl) (W := 0) (Nat.le_of_eq rfl) (by decide) (by decide) (by decide) (by decide) (pc' := 35) rfl fun T z54 w hz55 => ?_
      refine s_if_eq w (hb hby dnam_35) (by decide) (pc1 := 38) rfl (pc2 := 44) rfl (fun ct56 => ?_) (fun ct56 => ?_)
      · have e2 := hz55.elim (fun q => q.2) (fun q => absurd q.1 ct56)
        exact absurd (e1.trans e2.symm) (by decide)
      · have e2 := hz55.elim (fun q => absurd (q.1.symm.trans ct56) (by decide)) (fun q => q.2)
        refine s_iinc w #[.val (.ref x), .val (.ref o49), .val (.ref u13), .val (.int 3), .val (.int (2 + 1)), .val (.ref aT)] (hb hby dnam_44) (v := 1) rfl rfl rfl (pc' := 47) rfl ?_
        show Run p e below _ T (mkF m 47 #[.val (.ref x), .val (.ref o49), .val (.ref u13), .val (.int 3), .val (.int 3), .val (.ref aT)] [])
        refine s_goto w (hb hby dnam_47) (by decide) (pc' := 14) rfl ?_
        refine s_iload w (hb hby dnam_14) rfl (pc' := 16) rfl ?_
        refine s_iload_n w (hb hby dnam_16) rfl (pc' := 17) rfl ?_
        refine s_icmp_ge w (hb hby dnam_17) (by decide) (pc1 := 20) rfl (pc2 := 50) rfl (fun q => absurd q (by decide)) (fun _ => ?_)
        refine s_aload_n w (hb hby dnam_50) rfl rfl (pc' := 51) rfl ?_
        exact w_areturn w hEL hs hlk hret rfl rfl (hb hby dnam_51) (by decide) (by decide) ⟨o49, _, rfl, E50, F51, by rw [if_neg e0, if_pos e1]⟩
    · have e1 := hz41.elim (fun q => absurd (q.1.symm.trans ct42) (by decide)) (fun q => q.2)
      refine s_iinc w #[.val (.ref x), .val (.ref eO), .val (.ref u13), .val (.int 3), .val (.int (1 + 1)), .val (.ref aG)] (hb hby dnam_44) (v := 1) rfl rfl rfl (pc' := 47) rfl ?_
      show Run p e below _ T (mkF m 47 #[.val (.ref x), .val (.ref eO), .val (.ref u13), .val (.int 3), .val (.int 2), .val (.ref aG)] [])
      refine s_goto w (hb hby dnam_47) (by decide) (pc' := 14) rfl ?_
      refine s_iload w (hb hby dnam_14) rfl (pc' := 16) rfl ?_
      refine s_iload_n w (hb hby dnam_16) rfl (pc' := 17) rfl ?_
      refine s_icmp_ge w (hb hby dnam_17) (by decide) (pc1 := 20) rfl (pc2 := 50) rfl (fun _ => ?_) (fun q => absurd q (by decide))
      refine s_aload_n w (hb hby dnam_20) rfl rfl (pc' := 21) rfl ?_
      refine s_iload w (hb hby dnam_21) rfl (pc' := 23) rfl ?_
      refine w_ldA w A14 rfl (i := 2) (by decide) rfl (by decide) (v := .ref aT) rfl (hb hby dnam_23) (pc' := 24) rfl ?_
      refine s_astore w #[.val (.ref x), .val (.ref eO), .val (.ref u13), .val (.int 3), .val (.int 2), .val (.ref aT)] (hb hby dnam_24) rfl rfl (pc' := 26) rfl ?_
      refine s_aload w (hb hby dnam_26) rfl rfl (pc' := 28) rfl ?_
      refine w_getF w (hw _ (List.mem_of_getElem? (i := 65) rfl)) Via.refl ((lT.ext hZ0).ext E15) (hb hby dnam_28) (pc' := 31) rfl fun T w => ?_
      refine s_aload_n w (hb hby dnam_31) rfl rfl (pc' := 32) rfl ?_
      refine w_strEq w hwE (hw _ (List.mem_of_getElem? (i := 10) rfl)) (hw _ (List.mem_of_getElem? (i := 67) rfl)) (hw _ (List.mem_of_getElem? (i := 68) rfl)) (hw _ (List.mem_of_getElem? (i := 70) rfl)) (hw _ (List.mem_of_getElem? (i := 69) rfl)) ((tT.ext hZ0).ext E15) (Sx.ext E15) SC hz (hb hby dnam_32) (by rw [hml]; rfl) (W := 0) (Nat.le_of_eq rfl) (by decide) (by decide) (by decide) (by decide) (pc' := 35) rfl fun T z59 w hz60 => ?_
      refine s_if_eq w (hb hby dnam_35) (by decide) (pc1 := 38) rfl (pc2 := 44) rfl (fun ct61 => ?_) (fun ct61 => ?_)
      · have e2 := hz60.elim (fun q => q.2) (fun q => absurd q.1 ct61)
        refine s_aload w (hb hby dnam_38) rfl rfl (pc' := 40) rfl ?_
        refine w_staticN w hEL (y := (⟨"java/util/Optional", "of", "(Ljava/lang/Object;)Ljava/util/Optional;"⟩ : MethodName)) (hw _ (List.mem_of_getElem? (i := 91) rfl)) (hw _ (List.mem_of_getElem? (i := 92) rfl)) (hw _ (List.mem_of_getElem? (i := 44) rfl)) (hw _ (List.mem_of_getElem? (i := 93) rfl)) (by decide) (rm_oof G0 h9 aT) all0 all0 (argsL := [.ref aT]) (rest := []) (lenOf (by decide +kernel : parseMethodDescriptor "(Ljava/lang/Object;)Ljava/util/Optional;" = some ⟨[(.object "java/lang/Object")], (some (.object "java/util/Optional"))⟩) rfl) rfl rfl (hb hby dnam_40) (by rw [hml]; rfl) (W := 0) (Nat.le_of_eq rfl) (by decide) (by decide) (by decide) (by decide) (pc' := 43) rfl fun u62 N63 T h64 w K65 P66 => ?_
        obtain ⟨rfl, P67⟩ := P66
        obtain ⟨o68, rfl, E69, F70⟩ := P67
        have E71 := Keep.ext0 K65
        show Run p e below _ T (mkF m 43 #[.val (.ref x), .val (.ref eO), .val (.ref u13), .val (.int 3), .val (.int 2), .val (.ref aT)] [.ref o68])
        refine s_astore_n w #[.val (.ref x), .val (.ref o68), .val (.ref u13), .val (.int 3), .val (.int 2), .val (.ref aT)] (hb hby dnam_43) rfl rfl (pc' := 44) rfl ?_
        refine s_iinc w #[.val (.ref x), .val (.ref o68), .val (.ref u13), .val (.int 3), .val (.int (2 + 1)), .val (.ref aT)] (hb hby dnam_44) (v := 1) rfl rfl rfl (pc' := 47) rfl ?_
        show Run p e below _ T (mkF m 47 #[.val (.ref x), .val (.ref o68), .val (.ref u13), .val (.int 3), .val (.int 3), .val (.ref aT)] [])
        refine s_goto w (hb hby dnam_47) (by decide) (pc' := 14) rfl ?_
        refine s_iload w (hb hby dnam_14) rfl (pc' := 16) rfl ?_
        refine s_iload_n w (hb hby dnam_16) rfl (pc' := 17) rfl ?_
        refine s_icmp_ge w (hb hby dnam_17) (by decide) (pc1 := 20) rfl (pc2 := 50) rfl (fun q => absurd q (by decide)) (fun _ => ?_)
        refine s_aload_n w (hb hby dnam_50) rfl rfl (pc' := 51) rfl ?_
        exact w_areturn w hEL hs hlk hret rfl rfl (hb hby dnam_51) (by decide) (by decide) ⟨o68, _, rfl, E69, F70, by rw [if_neg e0, if_neg e1, if_pos e2]⟩
      · have e2 := hz60.elim (fun q => absurd (q.1.symm.trans ct61) (by decide)) (fun q => q.2)
        refine s_iinc w #[.val (.ref x), .val (.ref eO), .val (.ref u13), .val (.int 3), .val (.int (2 + 1)), .val (.ref aT)] (hb hby dnam_44) (v := 1) rfl rfl rfl (pc' := 47) rfl ?_
        show Run p e below _ T (mkF m 47 #[.val (.ref x), .val (.ref eO), .val (.ref u13), .val (.int 3), .val (.int 3), .val (.ref aT)] [])
        refine s_goto w (hb hby dnam_47) (by decide) (pc' := 14) rfl ?_
        refine s_iload w (hb hby dnam_14) rfl (pc' := 16) rfl ?_
        refine s_iload_n w (hb hby dnam_16) rfl (pc' := 17) rfl ?_
        refine s_icmp_ge w (hb hby dnam_17) (by decide) (pc1 := 20) rfl (pc2 := 50) rfl (fun q => absurd q (by decide)) (fun _ => ?_)
        refine s_aload_n w (hb hby dnam_50) rfl rfl (pc' := 51) rfl ?_
        exact w_areturn w hEL hs hlk hret rfl rfl (hb hby dnam_51) (by decide) (by decide) ⟨eO, _, rfl, (xE.ext w.old), (vE.ext w.old), by rw [if_neg e0, if_neg e1, if_neg e2]⟩
theorem db_0 : decode method_2_code 0 = .ok (.iload_n 0, 1) := by decide +kernel
theorem db_1 : decode method_2_code 1 = .ok (.bipush 8, 2) := by decide +kernel
theorem db_3 : decode method_2_code 3 = .ok (.iload_n 1, 1) := by decide +kernel
theorem db_4 : decode method_2_code 4 = .ok (.imul, 1) := by decide +kernel
theorem db_5 : decode method_2_code 5 = .ok (.iushr, 1) := by decide +kernel
theorem db_6 : decode method_2_code 6 = .ok (.sipush 255, 3) := by decide +kernel
theorem db_9 : decode method_2_code 9 = .ok (.iand, 1) := by decide +kernel
theorem db_10 : decode method_2_code 10 = .ok (.i2c, 1) := by decide +kernel
theorem db_11 : decode method_2_code 11 = .ok (.ireturn, 1) := by decide +kernel
theorem pn_3 : plainName "com/example/tuikuan/tuikuan/ChannelNamedPinLaw" = true := by first | (simp [plainName, overriddenIn]; done) | decide +kernel
theorem ef_b (m : MethodId) (x : Int32) (k : Int32) : entryFrame m #[.int x, .int k] 2 = mkF m 0 #[.val (.int x), .val (.int k)] [] := by first | (simp [entryFrame, mkF, argsToLocals, Value.category]; done) | rfl
set_option maxRecDepth 65536 in
set_option maxHeartbeats 40000000 in
theorem rm_b {l : Launch} {Z : State} {a0 : Array Value} {zc : Int32} {aD : Addr} {aG : Addr} {aT : Addr} {fD : Addr} {fG : Addr} {fT : Addr} {va : Addr} {eO : Addr} {kv : ClassId} (G : Gl Z a0 zc aD aG aT fD fG fT va eO kv) (h : Heap) (x : Int32) (k : Int32)  :
    Met l Z consts_1 (⟨"com/example/tuikuan/tuikuan/ChannelNamedPinLaw", "b", "(II)C"⟩ : MethodName) method_2_code 2 (some .char) ({ frames := 0, cells := 0, slots := 0, locals := 0 } : Room) #[.int x, .int k] h [] [] (fun v h' => ∃ q, v = some (.int q) ∧ h = h' ∧ Lat q) := by
  have G0 := G
  obtain ⟨hw, hEL, SC, hz, sD, sG, sT, sV, sE, xE, vE, xV, rV, xD, xG, xT, lD, lG, lT, tD, tG, tT⟩ := G
  have hw1 : ∀ d ∈ StrChars.Road.words, d.before a0 Z = true := fun d q => hw d (sub1 d q)
  have hwA : ∀ d ∈ Bundle.stringAtoms, d.before a0 Z = true := fun d q => hw d (subA d q)
  have hw2 : ∀ d ∈ wordsS, d.before a0 Z = true := fun d q => hw d (sub2 d q)
  have hwE : ∀ d ∈ StrChars.Road.wordsEq, d.before a0 Z = true := fun d q => hw d (subE d q)
  refine Met.of (plainFor_of_name pn_3) ?_
  intro p e s m below meth c T hnm hret hlk hby hml hs w
  have hZ0 := w.old
  refine Run.cast (ef_b m x k) ?_
  refine s_iload_n w (hb hby db_0) rfl (pc' := 1) rfl ?_
  refine s_bipush w (hb hby db_1) (v := 8) rfl (pc' := 3) rfl ?_
  refine s_iload_n w (hb hby db_3) rfl (pc' := 4) rfl ?_
  refine s_imul w (hb hby db_4) (pc' := 5) rfl ?_
  refine s_iushr w (hb hby db_5) (pc' := 6) rfl ?_
  refine s_sipush w (hb hby db_6) (v := 255) rfl (pc' := 9) rfl ?_
  refine s_iand w (hb hby db_9) (pc' := 10) rfl ?_
  refine s_i2c w (hb hby db_10) (pc' := 11) rfl ?_
  exact w_ireturn w hEL hs hlk hret ((congrArg Value.int (lat_mask _).nar)) (Or.inr (Or.inr (Or.inr (Or.inl rfl)))) (hb hby db_11) (by decide) (by decide) ⟨_, rfl, rfl, lat_mask _⟩
theorem dmk_0 : decode method_3_code 0 = .ok (.iload_n 1, 1) := by decide +kernel
theorem dmk_1 : decode method_3_code 1 = .ok (.ifCond .gt 14, 3) := by decide +kernel
theorem dmk_4 : decode method_3_code 4 = .ok (.new 7, 3) := by decide +kernel
theorem dmk_7 : decode method_3_code 7 = .ok (.dup, 1) := by decide +kernel
theorem dmk_8 : decode method_3_code 8 = .ok (.iconst 0, 1) := by decide +kernel
theorem dmk_9 : decode method_3_code 9 = .ok (.newarray .char, 2) := by decide +kernel
theorem dmk_11 : decode method_3_code 11 = .ok (.invokespecial 9, 3) := by decide +kernel
theorem dmk_14 : decode method_3_code 14 = .ok (.areturn, 1) := by decide +kernel
theorem dmk_15 : decode method_3_code 15 = .ok (.iload_n 1, 1) := by decide +kernel
theorem dmk_16 : decode method_3_code 16 = .ok (.iconst 1, 1) := by decide +kernel
theorem dmk_17 : decode method_3_code 17 = .ok (.if_icmp .ne 20, 3) := by decide +kernel
theorem dmk_20 : decode method_3_code 20 = .ok (.new 7, 3) := by decide +kernel
theorem dmk_23 : decode method_3_code 23 = .ok (.dup, 1) := by decide +kernel
theorem dmk_24 : decode method_3_code 24 = .ok (.iconst 1, 1) := by decide +kernel
theorem dmk_25 : decode method_3_code 25 = .ok (.newarray .char, 2) := by decide +kernel
theorem dmk_27 : decode method_3_code 27 = .ok (.dup, 1) := by decide +kernel
theorem dmk_28 : decode method_3_code 28 = .ok (.iconst 0, 1) := by decide +kernel
theorem dmk_29 : decode method_3_code 29 = .ok (.aload_n 0, 1) := by decide +kernel
theorem dmk_30 : decode method_3_code 30 = .ok (.iconst 0, 1) := by decide +kernel
theorem dmk_31 : decode method_3_code 31 = .ok (.caload, 1) := by decide +kernel
theorem dmk_32 : decode method_3_code 32 = .ok (.castore, 1) := by decide +kernel
theorem dmk_33 : decode method_3_code 33 = .ok (.invokespecial 9, 3) := by decide +kernel
theorem dmk_36 : decode method_3_code 36 = .ok (.areturn, 1) := by decide +kernel
theorem dmk_37 : decode method_3_code 37 = .ok (.iload_n 1, 1) := by decide +kernel
theorem dmk_38 : decode method_3_code 38 = .ok (.iconst 2, 1) := by decide +kernel
theorem dmk_39 : decode method_3_code 39 = .ok (.if_icmp .ne 26, 3) := by decide +kernel
theorem dmk_42 : decode method_3_code 42 = .ok (.new 7, 3) := by decide +kernel
theorem dmk_45 : decode method_3_code 45 = .ok (.dup, 1) := by decide +kernel
theorem dmk_46 : decode method_3_code 46 = .ok (.iconst 2, 1) := by decide +kernel
theorem dmk_47 : decode method_3_code 47 = .ok (.newarray .char, 2) := by decide +kernel
theorem dmk_49 : decode method_3_code 49 = .ok (.dup, 1) := by decide +kernel
theorem dmk_50 : decode method_3_code 50 = .ok (.iconst 0, 1) := by decide +kernel
theorem dmk_51 : decode method_3_code 51 = .ok (.aload_n 0, 1) := by decide +kernel
theorem dmk_52 : decode method_3_code 52 = .ok (.iconst 0, 1) := by decide +kernel
theorem dmk_53 : decode method_3_code 53 = .ok (.caload, 1) := by decide +kernel
theorem dmk_54 : decode method_3_code 54 = .ok (.castore, 1) := by decide +kernel
theorem dmk_55 : decode method_3_code 55 = .ok (.dup, 1) := by decide +kernel
theorem dmk_56 : decode method_3_code 56 = .ok (.iconst 1, 1) := by decide +kernel
theorem dmk_57 : decode method_3_code 57 = .ok (.aload_n 0, 1) := by decide +kernel
theorem dmk_58 : decode method_3_code 58 = .ok (.iconst 1, 1) := by decide +kernel
theorem dmk_59 : decode method_3_code 59 = .ok (.caload, 1) := by decide +kernel
theorem dmk_60 : decode method_3_code 60 = .ok (.castore, 1) := by decide +kernel
theorem dmk_61 : decode method_3_code 61 = .ok (.invokespecial 9, 3) := by decide +kernel
theorem dmk_64 : decode method_3_code 64 = .ok (.areturn, 1) := by decide +kernel
theorem dmk_65 : decode method_3_code 65 = .ok (.iload_n 1, 1) := by decide +kernel
theorem dmk_66 : decode method_3_code 66 = .ok (.iconst 3, 1) := by decide +kernel
theorem dmk_67 : decode method_3_code 67 = .ok (.if_icmp .ne 32, 3) := by decide +kernel
theorem dmk_70 : decode method_3_code 70 = .ok (.new 7, 3) := by decide +kernel
theorem dmk_73 : decode method_3_code 73 = .ok (.dup, 1) := by decide +kernel
theorem dmk_74 : decode method_3_code 74 = .ok (.iconst 3, 1) := by decide +kernel
theorem dmk_75 : decode method_3_code 75 = .ok (.newarray .char, 2) := by decide +kernel
theorem dmk_77 : decode method_3_code 77 = .ok (.dup, 1) := by decide +kernel
theorem dmk_78 : decode method_3_code 78 = .ok (.iconst 0, 1) := by decide +kernel
theorem dmk_79 : decode method_3_code 79 = .ok (.aload_n 0, 1) := by decide +kernel
theorem dmk_80 : decode method_3_code 80 = .ok (.iconst 0, 1) := by decide +kernel
theorem dmk_81 : decode method_3_code 81 = .ok (.caload, 1) := by decide +kernel
theorem dmk_82 : decode method_3_code 82 = .ok (.castore, 1) := by decide +kernel
theorem dmk_83 : decode method_3_code 83 = .ok (.dup, 1) := by decide +kernel
theorem dmk_84 : decode method_3_code 84 = .ok (.iconst 1, 1) := by decide +kernel
theorem dmk_85 : decode method_3_code 85 = .ok (.aload_n 0, 1) := by decide +kernel
theorem dmk_86 : decode method_3_code 86 = .ok (.iconst 1, 1) := by decide +kernel
theorem dmk_87 : decode method_3_code 87 = .ok (.caload, 1) := by decide +kernel
theorem dmk_88 : decode method_3_code 88 = .ok (.castore, 1) := by decide +kernel
theorem dmk_89 : decode method_3_code 89 = .ok (.dup, 1) := by decide +kernel
theorem dmk_90 : decode method_3_code 90 = .ok (.iconst 2, 1) := by decide +kernel
theorem dmk_91 : decode method_3_code 91 = .ok (.aload_n 0, 1) := by decide +kernel
theorem dmk_92 : decode method_3_code 92 = .ok (.iconst 2, 1) := by decide +kernel
theorem dmk_93 : decode method_3_code 93 = .ok (.caload, 1) := by decide +kernel
theorem dmk_94 : decode method_3_code 94 = .ok (.castore, 1) := by decide +kernel
theorem dmk_95 : decode method_3_code 95 = .ok (.invokespecial 9, 3) := by decide +kernel
theorem dmk_98 : decode method_3_code 98 = .ok (.areturn, 1) := by decide +kernel
theorem dmk_99 : decode method_3_code 99 = .ok (.iload_n 1, 1) := by decide +kernel
theorem dmk_100 : decode method_3_code 100 = .ok (.iconst 4, 1) := by decide +kernel
theorem dmk_101 : decode method_3_code 101 = .ok (.if_icmp .ne 38, 3) := by decide +kernel
theorem dmk_104 : decode method_3_code 104 = .ok (.new 7, 3) := by decide +kernel
theorem dmk_107 : decode method_3_code 107 = .ok (.dup, 1) := by decide +kernel
theorem dmk_108 : decode method_3_code 108 = .ok (.iconst 4, 1) := by decide +kernel
theorem dmk_109 : decode method_3_code 109 = .ok (.newarray .char, 2) := by decide +kernel
theorem dmk_111 : decode method_3_code 111 = .ok (.dup, 1) := by decide +kernel
theorem dmk_112 : decode method_3_code 112 = .ok (.iconst 0, 1) := by decide +kernel
theorem dmk_113 : decode method_3_code 113 = .ok (.aload_n 0, 1) := by decide +kernel
theorem dmk_114 : decode method_3_code 114 = .ok (.iconst 0, 1) := by decide +kernel
theorem dmk_115 : decode method_3_code 115 = .ok (.caload, 1) := by decide +kernel
theorem dmk_116 : decode method_3_code 116 = .ok (.castore, 1) := by decide +kernel
theorem dmk_117 : decode method_3_code 117 = .ok (.dup, 1) := by decide +kernel
theorem dmk_118 : decode method_3_code 118 = .ok (.iconst 1, 1) := by decide +kernel
theorem dmk_119 : decode method_3_code 119 = .ok (.aload_n 0, 1) := by decide +kernel
theorem dmk_120 : decode method_3_code 120 = .ok (.iconst 1, 1) := by decide +kernel
theorem dmk_121 : decode method_3_code 121 = .ok (.caload, 1) := by decide +kernel
theorem dmk_122 : decode method_3_code 122 = .ok (.castore, 1) := by decide +kernel
theorem dmk_123 : decode method_3_code 123 = .ok (.dup, 1) := by decide +kernel
theorem dmk_124 : decode method_3_code 124 = .ok (.iconst 2, 1) := by decide +kernel
theorem dmk_125 : decode method_3_code 125 = .ok (.aload_n 0, 1) := by decide +kernel
theorem dmk_126 : decode method_3_code 126 = .ok (.iconst 2, 1) := by decide +kernel
theorem dmk_127 : decode method_3_code 127 = .ok (.caload, 1) := by decide +kernel
theorem dmk_128 : decode method_3_code 128 = .ok (.castore, 1) := by decide +kernel
theorem dmk_129 : decode method_3_code 129 = .ok (.dup, 1) := by decide +kernel
theorem dmk_130 : decode method_3_code 130 = .ok (.iconst 3, 1) := by decide +kernel
theorem dmk_131 : decode method_3_code 131 = .ok (.aload_n 0, 1) := by decide +kernel
theorem dmk_132 : decode method_3_code 132 = .ok (.iconst 3, 1) := by decide +kernel
theorem dmk_133 : decode method_3_code 133 = .ok (.caload, 1) := by decide +kernel
theorem dmk_134 : decode method_3_code 134 = .ok (.castore, 1) := by decide +kernel
theorem dmk_135 : decode method_3_code 135 = .ok (.invokespecial 9, 3) := by decide +kernel
theorem dmk_138 : decode method_3_code 138 = .ok (.areturn, 1) := by decide +kernel
theorem dmk_139 : decode method_3_code 139 = .ok (.iload_n 1, 1) := by decide +kernel
theorem dmk_140 : decode method_3_code 140 = .ok (.iconst 5, 1) := by decide +kernel
theorem dmk_141 : decode method_3_code 141 = .ok (.if_icmp .ne 44, 3) := by decide +kernel
theorem dmk_144 : decode method_3_code 144 = .ok (.new 7, 3) := by decide +kernel
theorem dmk_147 : decode method_3_code 147 = .ok (.dup, 1) := by decide +kernel
theorem dmk_148 : decode method_3_code 148 = .ok (.iconst 5, 1) := by decide +kernel
theorem dmk_149 : decode method_3_code 149 = .ok (.newarray .char, 2) := by decide +kernel
theorem dmk_151 : decode method_3_code 151 = .ok (.dup, 1) := by decide +kernel
theorem dmk_152 : decode method_3_code 152 = .ok (.iconst 0, 1) := by decide +kernel
theorem dmk_153 : decode method_3_code 153 = .ok (.aload_n 0, 1) := by decide +kernel
theorem dmk_154 : decode method_3_code 154 = .ok (.iconst 0, 1) := by decide +kernel
theorem dmk_155 : decode method_3_code 155 = .ok (.caload, 1) := by decide +kernel
theorem dmk_156 : decode method_3_code 156 = .ok (.castore, 1) := by decide +kernel
theorem dmk_157 : decode method_3_code 157 = .ok (.dup, 1) := by decide +kernel
theorem dmk_158 : decode method_3_code 158 = .ok (.iconst 1, 1) := by decide +kernel
theorem dmk_159 : decode method_3_code 159 = .ok (.aload_n 0, 1) := by decide +kernel
theorem dmk_160 : decode method_3_code 160 = .ok (.iconst 1, 1) := by decide +kernel
theorem dmk_161 : decode method_3_code 161 = .ok (.caload, 1) := by decide +kernel
theorem dmk_162 : decode method_3_code 162 = .ok (.castore, 1) := by decide +kernel
theorem dmk_163 : decode method_3_code 163 = .ok (.dup, 1) := by decide +kernel
theorem dmk_164 : decode method_3_code 164 = .ok (.iconst 2, 1) := by decide +kernel
theorem dmk_165 : decode method_3_code 165 = .ok (.aload_n 0, 1) := by decide +kernel
theorem dmk_166 : decode method_3_code 166 = .ok (.iconst 2, 1) := by decide +kernel
theorem dmk_167 : decode method_3_code 167 = .ok (.caload, 1) := by decide +kernel
theorem dmk_168 : decode method_3_code 168 = .ok (.castore, 1) := by decide +kernel
theorem dmk_169 : decode method_3_code 169 = .ok (.dup, 1) := by decide +kernel
theorem dmk_170 : decode method_3_code 170 = .ok (.iconst 3, 1) := by decide +kernel
theorem dmk_171 : decode method_3_code 171 = .ok (.aload_n 0, 1) := by decide +kernel
theorem dmk_172 : decode method_3_code 172 = .ok (.iconst 3, 1) := by decide +kernel
theorem dmk_173 : decode method_3_code 173 = .ok (.caload, 1) := by decide +kernel
theorem dmk_174 : decode method_3_code 174 = .ok (.castore, 1) := by decide +kernel
theorem dmk_175 : decode method_3_code 175 = .ok (.dup, 1) := by decide +kernel
theorem dmk_176 : decode method_3_code 176 = .ok (.iconst 4, 1) := by decide +kernel
theorem dmk_177 : decode method_3_code 177 = .ok (.aload_n 0, 1) := by decide +kernel
theorem dmk_178 : decode method_3_code 178 = .ok (.iconst 4, 1) := by decide +kernel
theorem dmk_179 : decode method_3_code 179 = .ok (.caload, 1) := by decide +kernel
theorem dmk_180 : decode method_3_code 180 = .ok (.castore, 1) := by decide +kernel
theorem dmk_181 : decode method_3_code 181 = .ok (.invokespecial 9, 3) := by decide +kernel
theorem dmk_184 : decode method_3_code 184 = .ok (.areturn, 1) := by decide +kernel
theorem dmk_185 : decode method_3_code 185 = .ok (.iload_n 1, 1) := by decide +kernel
theorem dmk_186 : decode method_3_code 186 = .ok (.bipush 6, 2) := by decide +kernel
theorem dmk_188 : decode method_3_code 188 = .ok (.if_icmp .ne 51, 3) := by decide +kernel
theorem dmk_191 : decode method_3_code 191 = .ok (.new 7, 3) := by decide +kernel
theorem dmk_194 : decode method_3_code 194 = .ok (.dup, 1) := by decide +kernel
theorem dmk_195 : decode method_3_code 195 = .ok (.bipush 6, 2) := by decide +kernel
theorem dmk_197 : decode method_3_code 197 = .ok (.newarray .char, 2) := by decide +kernel
theorem dmk_199 : decode method_3_code 199 = .ok (.dup, 1) := by decide +kernel
theorem dmk_200 : decode method_3_code 200 = .ok (.iconst 0, 1) := by decide +kernel
theorem dmk_201 : decode method_3_code 201 = .ok (.aload_n 0, 1) := by decide +kernel
theorem dmk_202 : decode method_3_code 202 = .ok (.iconst 0, 1) := by decide +kernel
theorem dmk_203 : decode method_3_code 203 = .ok (.caload, 1) := by decide +kernel
theorem dmk_204 : decode method_3_code 204 = .ok (.castore, 1) := by decide +kernel
theorem dmk_205 : decode method_3_code 205 = .ok (.dup, 1) := by decide +kernel
theorem dmk_206 : decode method_3_code 206 = .ok (.iconst 1, 1) := by decide +kernel
theorem dmk_207 : decode method_3_code 207 = .ok (.aload_n 0, 1) := by decide +kernel
theorem dmk_208 : decode method_3_code 208 = .ok (.iconst 1, 1) := by decide +kernel
theorem dmk_209 : decode method_3_code 209 = .ok (.caload, 1) := by decide +kernel
theorem dmk_210 : decode method_3_code 210 = .ok (.castore, 1) := by decide +kernel
theorem dmk_211 : decode method_3_code 211 = .ok (.dup, 1) := by decide +kernel
theorem dmk_212 : decode method_3_code 212 = .ok (.iconst 2, 1) := by decide +kernel
theorem dmk_213 : decode method_3_code 213 = .ok (.aload_n 0, 1) := by decide +kernel
theorem dmk_214 : decode method_3_code 214 = .ok (.iconst 2, 1) := by decide +kernel
theorem dmk_215 : decode method_3_code 215 = .ok (.caload, 1) := by decide +kernel
theorem dmk_216 : decode method_3_code 216 = .ok (.castore, 1) := by decide +kernel
theorem dmk_217 : decode method_3_code 217 = .ok (.dup, 1) := by decide +kernel
theorem dmk_218 : decode method_3_code 218 = .ok (.iconst 3, 1) := by decide +kernel
theorem dmk_219 : decode method_3_code 219 = .ok (.aload_n 0, 1) := by decide +kernel
theorem dmk_220 : decode method_3_code 220 = .ok (.iconst 3, 1) := by decide +kernel
theorem dmk_221 : decode method_3_code 221 = .ok (.caload, 1) := by decide +kernel
theorem dmk_222 : decode method_3_code 222 = .ok (.castore, 1) := by decide +kernel
theorem dmk_223 : decode method_3_code 223 = .ok (.dup, 1) := by decide +kernel
theorem dmk_224 : decode method_3_code 224 = .ok (.iconst 4, 1) := by decide +kernel
theorem dmk_225 : decode method_3_code 225 = .ok (.aload_n 0, 1) := by decide +kernel
theorem dmk_226 : decode method_3_code 226 = .ok (.iconst 4, 1) := by decide +kernel
theorem dmk_227 : decode method_3_code 227 = .ok (.caload, 1) := by decide +kernel
theorem dmk_228 : decode method_3_code 228 = .ok (.castore, 1) := by decide +kernel
theorem dmk_229 : decode method_3_code 229 = .ok (.dup, 1) := by decide +kernel
theorem dmk_230 : decode method_3_code 230 = .ok (.iconst 5, 1) := by decide +kernel
theorem dmk_231 : decode method_3_code 231 = .ok (.aload_n 0, 1) := by decide +kernel
theorem dmk_232 : decode method_3_code 232 = .ok (.iconst 5, 1) := by decide +kernel
theorem dmk_233 : decode method_3_code 233 = .ok (.caload, 1) := by decide +kernel
theorem dmk_234 : decode method_3_code 234 = .ok (.castore, 1) := by decide +kernel
theorem dmk_235 : decode method_3_code 235 = .ok (.invokespecial 9, 3) := by decide +kernel
theorem dmk_238 : decode method_3_code 238 = .ok (.areturn, 1) := by decide +kernel
theorem dmk_239 : decode method_3_code 239 = .ok (.iload_n 1, 1) := by decide +kernel
theorem dmk_240 : decode method_3_code 240 = .ok (.bipush 7, 2) := by decide +kernel
theorem dmk_242 : decode method_3_code 242 = .ok (.if_icmp .ne 59, 3) := by decide +kernel
theorem dmk_245 : decode method_3_code 245 = .ok (.new 7, 3) := by decide +kernel
theorem dmk_248 : decode method_3_code 248 = .ok (.dup, 1) := by decide +kernel
theorem dmk_249 : decode method_3_code 249 = .ok (.bipush 7, 2) := by decide +kernel
theorem dmk_251 : decode method_3_code 251 = .ok (.newarray .char, 2) := by decide +kernel
theorem dmk_253 : decode method_3_code 253 = .ok (.dup, 1) := by decide +kernel
theorem dmk_254 : decode method_3_code 254 = .ok (.iconst 0, 1) := by decide +kernel
theorem dmk_255 : decode method_3_code 255 = .ok (.aload_n 0, 1) := by decide +kernel
theorem dmk_256 : decode method_3_code 256 = .ok (.iconst 0, 1) := by decide +kernel
theorem dmk_257 : decode method_3_code 257 = .ok (.caload, 1) := by decide +kernel
theorem dmk_258 : decode method_3_code 258 = .ok (.castore, 1) := by decide +kernel
theorem dmk_259 : decode method_3_code 259 = .ok (.dup, 1) := by decide +kernel
theorem dmk_260 : decode method_3_code 260 = .ok (.iconst 1, 1) := by decide +kernel
theorem dmk_261 : decode method_3_code 261 = .ok (.aload_n 0, 1) := by decide +kernel
theorem dmk_262 : decode method_3_code 262 = .ok (.iconst 1, 1) := by decide +kernel
theorem dmk_263 : decode method_3_code 263 = .ok (.caload, 1) := by decide +kernel
theorem dmk_264 : decode method_3_code 264 = .ok (.castore, 1) := by decide +kernel
theorem dmk_265 : decode method_3_code 265 = .ok (.dup, 1) := by decide +kernel
theorem dmk_266 : decode method_3_code 266 = .ok (.iconst 2, 1) := by decide +kernel
theorem dmk_267 : decode method_3_code 267 = .ok (.aload_n 0, 1) := by decide +kernel
theorem dmk_268 : decode method_3_code 268 = .ok (.iconst 2, 1) := by decide +kernel
theorem dmk_269 : decode method_3_code 269 = .ok (.caload, 1) := by decide +kernel
theorem dmk_270 : decode method_3_code 270 = .ok (.castore, 1) := by decide +kernel
theorem dmk_271 : decode method_3_code 271 = .ok (.dup, 1) := by decide +kernel
theorem dmk_272 : decode method_3_code 272 = .ok (.iconst 3, 1) := by decide +kernel
theorem dmk_273 : decode method_3_code 273 = .ok (.aload_n 0, 1) := by decide +kernel
theorem dmk_274 : decode method_3_code 274 = .ok (.iconst 3, 1) := by decide +kernel
theorem dmk_275 : decode method_3_code 275 = .ok (.caload, 1) := by decide +kernel
theorem dmk_276 : decode method_3_code 276 = .ok (.castore, 1) := by decide +kernel
theorem dmk_277 : decode method_3_code 277 = .ok (.dup, 1) := by decide +kernel
theorem dmk_278 : decode method_3_code 278 = .ok (.iconst 4, 1) := by decide +kernel
theorem dmk_279 : decode method_3_code 279 = .ok (.aload_n 0, 1) := by decide +kernel
theorem dmk_280 : decode method_3_code 280 = .ok (.iconst 4, 1) := by decide +kernel
theorem dmk_281 : decode method_3_code 281 = .ok (.caload, 1) := by decide +kernel
theorem dmk_282 : decode method_3_code 282 = .ok (.castore, 1) := by decide +kernel
theorem dmk_283 : decode method_3_code 283 = .ok (.dup, 1) := by decide +kernel
theorem dmk_284 : decode method_3_code 284 = .ok (.iconst 5, 1) := by decide +kernel
theorem dmk_285 : decode method_3_code 285 = .ok (.aload_n 0, 1) := by decide +kernel
theorem dmk_286 : decode method_3_code 286 = .ok (.iconst 5, 1) := by decide +kernel
theorem dmk_287 : decode method_3_code 287 = .ok (.caload, 1) := by decide +kernel
theorem dmk_288 : decode method_3_code 288 = .ok (.castore, 1) := by decide +kernel
theorem dmk_289 : decode method_3_code 289 = .ok (.dup, 1) := by decide +kernel
theorem dmk_290 : decode method_3_code 290 = .ok (.bipush 6, 2) := by decide +kernel
theorem dmk_292 : decode method_3_code 292 = .ok (.aload_n 0, 1) := by decide +kernel
theorem dmk_293 : decode method_3_code 293 = .ok (.bipush 6, 2) := by decide +kernel
theorem dmk_295 : decode method_3_code 295 = .ok (.caload, 1) := by decide +kernel
theorem dmk_296 : decode method_3_code 296 = .ok (.castore, 1) := by decide +kernel
theorem dmk_297 : decode method_3_code 297 = .ok (.invokespecial 9, 3) := by decide +kernel
theorem dmk_300 : decode method_3_code 300 = .ok (.areturn, 1) := by decide +kernel
theorem dmk_301 : decode method_3_code 301 = .ok (.new 7, 3) := by decide +kernel
theorem dmk_304 : decode method_3_code 304 = .ok (.dup, 1) := by decide +kernel
theorem dmk_305 : decode method_3_code 305 = .ok (.bipush 8, 2) := by decide +kernel
theorem dmk_307 : decode method_3_code 307 = .ok (.newarray .char, 2) := by decide +kernel
theorem dmk_309 : decode method_3_code 309 = .ok (.dup, 1) := by decide +kernel
theorem dmk_310 : decode method_3_code 310 = .ok (.iconst 0, 1) := by decide +kernel
theorem dmk_311 : decode method_3_code 311 = .ok (.aload_n 0, 1) := by decide +kernel
theorem dmk_312 : decode method_3_code 312 = .ok (.iconst 0, 1) := by decide +kernel
theorem dmk_313 : decode method_3_code 313 = .ok (.caload, 1) := by decide +kernel
theorem dmk_314 : decode method_3_code 314 = .ok (.castore, 1) := by decide +kernel
theorem dmk_315 : decode method_3_code 315 = .ok (.dup, 1) := by decide +kernel
theorem dmk_316 : decode method_3_code 316 = .ok (.iconst 1, 1) := by decide +kernel
theorem dmk_317 : decode method_3_code 317 = .ok (.aload_n 0, 1) := by decide +kernel
theorem dmk_318 : decode method_3_code 318 = .ok (.iconst 1, 1) := by decide +kernel
theorem dmk_319 : decode method_3_code 319 = .ok (.caload, 1) := by decide +kernel
theorem dmk_320 : decode method_3_code 320 = .ok (.castore, 1) := by decide +kernel
theorem dmk_321 : decode method_3_code 321 = .ok (.dup, 1) := by decide +kernel
theorem dmk_322 : decode method_3_code 322 = .ok (.iconst 2, 1) := by decide +kernel
theorem dmk_323 : decode method_3_code 323 = .ok (.aload_n 0, 1) := by decide +kernel
theorem dmk_324 : decode method_3_code 324 = .ok (.iconst 2, 1) := by decide +kernel
theorem dmk_325 : decode method_3_code 325 = .ok (.caload, 1) := by decide +kernel
theorem dmk_326 : decode method_3_code 326 = .ok (.castore, 1) := by decide +kernel
theorem dmk_327 : decode method_3_code 327 = .ok (.dup, 1) := by decide +kernel
theorem dmk_328 : decode method_3_code 328 = .ok (.iconst 3, 1) := by decide +kernel
theorem dmk_329 : decode method_3_code 329 = .ok (.aload_n 0, 1) := by decide +kernel
theorem dmk_330 : decode method_3_code 330 = .ok (.iconst 3, 1) := by decide +kernel
theorem dmk_331 : decode method_3_code 331 = .ok (.caload, 1) := by decide +kernel
theorem dmk_332 : decode method_3_code 332 = .ok (.castore, 1) := by decide +kernel
theorem dmk_333 : decode method_3_code 333 = .ok (.dup, 1) := by decide +kernel
theorem dmk_334 : decode method_3_code 334 = .ok (.iconst 4, 1) := by decide +kernel
theorem dmk_335 : decode method_3_code 335 = .ok (.aload_n 0, 1) := by decide +kernel
theorem dmk_336 : decode method_3_code 336 = .ok (.iconst 4, 1) := by decide +kernel
theorem dmk_337 : decode method_3_code 337 = .ok (.caload, 1) := by decide +kernel
theorem dmk_338 : decode method_3_code 338 = .ok (.castore, 1) := by decide +kernel
theorem dmk_339 : decode method_3_code 339 = .ok (.dup, 1) := by decide +kernel
theorem dmk_340 : decode method_3_code 340 = .ok (.iconst 5, 1) := by decide +kernel
theorem dmk_341 : decode method_3_code 341 = .ok (.aload_n 0, 1) := by decide +kernel
theorem dmk_342 : decode method_3_code 342 = .ok (.iconst 5, 1) := by decide +kernel
theorem dmk_343 : decode method_3_code 343 = .ok (.caload, 1) := by decide +kernel
theorem dmk_344 : decode method_3_code 344 = .ok (.castore, 1) := by decide +kernel
theorem dmk_345 : decode method_3_code 345 = .ok (.dup, 1) := by decide +kernel
theorem dmk_346 : decode method_3_code 346 = .ok (.bipush 6, 2) := by decide +kernel
theorem dmk_348 : decode method_3_code 348 = .ok (.aload_n 0, 1) := by decide +kernel
theorem dmk_349 : decode method_3_code 349 = .ok (.bipush 6, 2) := by decide +kernel
theorem dmk_351 : decode method_3_code 351 = .ok (.caload, 1) := by decide +kernel
theorem dmk_352 : decode method_3_code 352 = .ok (.castore, 1) := by decide +kernel
theorem dmk_353 : decode method_3_code 353 = .ok (.dup, 1) := by decide +kernel
theorem dmk_354 : decode method_3_code 354 = .ok (.bipush 7, 2) := by decide +kernel
theorem dmk_356 : decode method_3_code 356 = .ok (.aload_n 0, 1) := by decide +kernel
theorem dmk_357 : decode method_3_code 357 = .ok (.bipush 7, 2) := by decide +kernel
theorem dmk_359 : decode method_3_code 359 = .ok (.caload, 1) := by decide +kernel
theorem dmk_360 : decode method_3_code 360 = .ok (.castore, 1) := by decide +kernel
theorem dmk_361 : decode method_3_code 361 = .ok (.invokespecial 9, 3) := by decide +kernel
theorem dmk_364 : decode method_3_code 364 = .ok (.areturn, 1) := by decide +kernel
theorem ef_mk (m : MethodId) (a : Addr) (n : Int32) : entryFrame m #[.ref a, .int n] 2 = mkF m 0 #[.val (.ref a), .val (.int n)] [] := by first | (simp [entryFrame, mkF, argsToLocals, Value.category]; done) | rfl
set_option maxRecDepth 65536 in
set_option maxHeartbeats 40000000 in
theorem rm_mk {l : Launch} {Z : State} {a0 : Array Value} {zc : Int32} {aD : Addr} {aG : Addr} {aT : Addr} {fD : Addr} {fG : Addr} {fT : Addr} {va : Addr} {eO : Addr} {kv : ClassId} (G : Gl Z a0 zc aD aG aT fD fG fT va eO kv) (h : Heap) (a : Addr) (n : Int32) (ka : ClassId) (us : List Int32) (A : Arv Z h a ka .char 8 (us.map Value.int) (.int 0)) (h8 : us.length = 8) (hus : ∀ c ∈ us, Lat c) :
    Met l Z consts_1 (⟨"com/example/tuikuan/tuikuan/ChannelNamedPinLaw", "mk", "([CI)Ljava/lang/String;"⟩ : MethodName) method_3_code 2 (some (.object "java/lang/String")) ({ frames := 4, cells := 6, slots := 20, locals := 66 } : Room) #[.ref a, .int n] h [] [] (fun v h' => ∃ x cs, v = some (.ref x) ∧ Str Z h' x cs) := by
  have G0 := G
  obtain ⟨hw, hEL, SC, hz, sD, sG, sT, sV, sE, xE, vE, xV, rV, xD, xG, xT, lD, lG, lT, tD, tG, tT⟩ := G
  have hw1 : ∀ d ∈ StrChars.Road.words, d.before a0 Z = true := fun d q => hw d (sub1 d q)
  have hwA : ∀ d ∈ Bundle.stringAtoms, d.before a0 Z = true := fun d q => hw d (subA d q)
  have hw2 : ∀ d ∈ wordsS, d.before a0 Z = true := fun d q => hw d (sub2 d q)
  have hwE : ∀ d ∈ StrChars.Road.wordsEq, d.before a0 Z = true := fun d q => hw d (subE d q)
  refine Met.of (plainFor_of_name pn_3) ?_
  intro p e s m below meth c T hnm hret hlk hby hml hs w
  have hZ0 := w.old
  refine Run.cast (ef_mk m a n) ?_
  refine s_iload_n w (hb hby dmk_0) rfl (pc' := 1) rfl ?_
  refine s_if_gt w (hb hby dmk_1) (by decide) (pc1 := 4) rfl (pc2 := 15) rfl (fun ct1 => ?_) (fun ct1 => ?_)
  · -- ¬ (0 < n)
    refine w_new w (hw _ (List.mem_of_getElem? (i := 9) rfl)) (hw _ (List.mem_of_getElem? (i := 10) rfl)) (hw _ (List.mem_of_getElem? (i := 11) rfl)) (hb hby dmk_4) (pc' := 7) rfl (by decide) (by decide) fun T h2 x3 w E4 q5 r6 A7 D8 => ?_
    have F_coder_x3 : Fld Z h2 x3 "java/lang/String" "coder" "B" (.int 0) := D8 (Or.inr (hw _ (List.mem_of_getElem? (i := 35) rfl))) (ty := .byte) (by decide)
    have F_value_x3 : Fld Z h2 x3 "java/lang/String" "value" "[B" (.null) := D8 (Or.inr (hw _ (List.mem_of_getElem? (i := 37) rfl))) (ty := (.array .byte)) (by decide)
    refine s_dup w (hb hby dmk_7) rfl (pc' := 8) rfl ?_
    refine s_iconst w (hb hby dmk_8) (v := 0) rfl (pc' := 9) rfl ?_
    refine w_newP w (hw _ (List.mem_of_getElem? (i := 0) rfl)) rfl rfl (hb hby dmk_9) (by decide) (n := 0) (by decide) (by decide) (pc' := 11) rfl (by decide) (by decide) fun T h9 x10 k11 w E12 q13 r14 V15 => ?_
    refine w_strInit w hEL hmem hw1 hw2 (hw _ (List.mem_of_getElem? (i := 12) rfl)) (hw _ (List.mem_of_getElem? (i := 13) rfl)) (cs := []) (n := 0) (A7.ext E12) (F_value_x3.ext E12) (F_coder_x3.ext E12) (show Arv Z h9 x10 k11 .char 0 (([] : List Int32).map Value.int) (.int 0) from V15) SC hz rfl rfl (by decide) (by intro c q; cases q) (List.mem_of_getElem? (i := 1) rfl) (Or.inr r6) (Nat.le_trans hZ0.1 r6) (hb hby dmk_11) (by rw [hml]; rfl) (W := 1) (Nat.le_of_eq rfl) (by decide) (by decide) (by decide) (by decide) (pc' := 14) rfl fun T h16 w K17 F18 => ?_
    have E19 := Ext.kp (Ext.tr E4 E12) K17 (allS q5 all0)
    exact w_areturn w hEL hs hlk hret rfl rfl (hb hby dmk_14) (by decide) (by decide) ⟨x3, _, rfl, F18⟩
  · -- 0 < n
    refine s_iload_n w (hb hby dmk_15) rfl (pc' := 16) rfl ?_
    refine s_iconst w (hb hby dmk_16) (v := 1) rfl (pc' := 17) rfl ?_
    refine s_icmp_ne w (hb hby dmk_17) (by decide) (pc1 := 20) rfl (pc2 := 37) rfl (fun ct20 => ?_) (fun ct20 => ?_)
    · -- n = 1
      refine w_new w (hw _ (List.mem_of_getElem? (i := 9) rfl)) (hw _ (List.mem_of_getElem? (i := 10) rfl)) (hw _ (List.mem_of_getElem? (i := 11) rfl)) (hb hby dmk_20) (pc' := 23) rfl (by decide) (by decide) fun T h21 x22 w E23 q24 r25 A26 D27 => ?_
      have F_coder_x22 : Fld Z h21 x22 "java/lang/String" "coder" "B" (.int 0) := D27 (Or.inr (hw _ (List.mem_of_getElem? (i := 35) rfl))) (ty := .byte) (by decide)
      have F_value_x22 : Fld Z h21 x22 "java/lang/String" "value" "[B" (.null) := D27 (Or.inr (hw _ (List.mem_of_getElem? (i := 37) rfl))) (ty := (.array .byte)) (by decide)
      refine s_dup w (hb hby dmk_23) rfl (pc' := 24) rfl ?_
      refine s_iconst w (hb hby dmk_24) (v := 1) rfl (pc' := 25) rfl ?_
      refine w_newP w (hw _ (List.mem_of_getElem? (i := 0) rfl)) rfl rfl (hb hby dmk_25) (by decide) (n := 1) (by decide) (by decide) (pc' := 27) rfl (by decide) (by decide) fun T h28 x29 k30 w E31 q32 r33 V34 => ?_
      refine s_dup w (hb hby dmk_27) rfl (pc' := 28) rfl ?_
      refine s_iconst w (hb hby dmk_28) (v := 0) rfl (pc' := 29) rfl ?_
      refine s_aload_n w (hb hby dmk_29) rfl rfl (pc' := 30) rfl ?_
      refine s_iconst w (hb hby dmk_30) (v := 0) rfl (pc' := 31) rfl ?_
      refine w_ldC w ((A.ext E23).ext E31) (i := 0) (by decide) rfl (by decide) (mapI_getD (by omega)) (hb hby dmk_31) (pc' := 32) rfl ?_
      refine w_stC w V34 (i := 0) (by decide) rfl (by decide) (Nat.le_of_ble_eq_true rfl) (hus _ (getD_memC (j := 0) (by omega))).nar (hb hby dmk_32) (Or.inr r33) (pc' := 33) rfl fun T h35 w W36 V37 => ?_
      have E38 := Ext.wr' E31 W36 q32
      refine w_strInitP w hw1 (hw _ (List.mem_of_getElem? (i := 10) rfl)) (hw _ (List.mem_of_getElem? (i := 12) rfl)) (hw _ (List.mem_of_getElem? (i := 13) rfl)) (cs := [(us.getD 0 0)]) (n := 1) (A26.ext E38) (F_value_x22.ext E38) (F_coder_x22.ext E38) (show Arv Z h35 x29 k30 .char 1 (([(us.getD 0 0)] : List Int32).map Value.int) (.int 0) from V37) SC hz rfl rfl (by decide) (by decide) (by intro c q; simp only [List.mem_cons, List.not_mem_nil, or_false] at q; rcases q with rfl <;> first | exact (hus _ (getD_memC (j := 0) (by omega)))) (List.mem_of_getElem? (i := 1) rfl) (Or.inr r25) (Nat.le_trans hZ0.1 r25) (hb hby dmk_33) (by rw [hml]; rfl) (W := 1) (Nat.le_of_eq rfl) (by decide) (by decide) (by decide) (by decide) (pc' := 36) rfl fun T h39 w K40 F41 => ?_
      have E42 := Ext.kp (Ext.tr E23 E38) K40 (allS q24 all0)
      exact w_areturn w hEL hs hlk hret rfl rfl (hb hby dmk_36) (by decide) (by decide) ⟨x22, _, rfl, F41⟩
    · -- ¬ (n = 1)
      refine s_iload_n w (hb hby dmk_37) rfl (pc' := 38) rfl ?_
      refine s_iconst w (hb hby dmk_38) (v := 2) rfl (pc' := 39) rfl ?_
      refine s_icmp_ne w (hb hby dmk_39) (by decide) (pc1 := 42) rfl (pc2 := 65) rfl (fun ct43 => ?_) (fun ct43 => ?_)
      · -- n = 2
        refine w_new w (hw _ (List.mem_of_getElem? (i := 9) rfl)) (hw _ (List.mem_of_getElem? (i := 10) rfl)) (hw _ (List.mem_of_getElem? (i := 11) rfl)) (hb hby dmk_42) (pc' := 45) rfl (by decide) (by decide) fun T h44 x45 w E46 q47 r48 A49 D50 => ?_
        have F_coder_x45 : Fld Z h44 x45 "java/lang/String" "coder" "B" (.int 0) := D50 (Or.inr (hw _ (List.mem_of_getElem? (i := 35) rfl))) (ty := .byte) (by decide)
        have F_value_x45 : Fld Z h44 x45 "java/lang/String" "value" "[B" (.null) := D50 (Or.inr (hw _ (List.mem_of_getElem? (i := 37) rfl))) (ty := (.array .byte)) (by decide)
        refine s_dup w (hb hby dmk_45) rfl (pc' := 46) rfl ?_
        refine s_iconst w (hb hby dmk_46) (v := 2) rfl (pc' := 47) rfl ?_
        refine w_newP w (hw _ (List.mem_of_getElem? (i := 0) rfl)) rfl rfl (hb hby dmk_47) (by decide) (n := 2) (by decide) (by decide) (pc' := 49) rfl (by decide) (by decide) fun T h51 x52 k53 w E54 q55 r56 V57 => ?_
        refine s_dup w (hb hby dmk_49) rfl (pc' := 50) rfl ?_
        refine s_iconst w (hb hby dmk_50) (v := 0) rfl (pc' := 51) rfl ?_
        refine s_aload_n w (hb hby dmk_51) rfl rfl (pc' := 52) rfl ?_
        refine s_iconst w (hb hby dmk_52) (v := 0) rfl (pc' := 53) rfl ?_
        refine w_ldC w ((A.ext E46).ext E54) (i := 0) (by decide) rfl (by decide) (mapI_getD (by omega)) (hb hby dmk_53) (pc' := 54) rfl ?_
        refine w_stC w V57 (i := 0) (by decide) rfl (by decide) (Nat.le_of_ble_eq_true rfl) (hus _ (getD_memC (j := 0) (by omega))).nar (hb hby dmk_54) (Or.inr r56) (pc' := 55) rfl fun T h58 w W59 V60 => ?_
        have E61 := Ext.wr' E54 W59 q55
        refine s_dup w (hb hby dmk_55) rfl (pc' := 56) rfl ?_
        refine s_iconst w (hb hby dmk_56) (v := 1) rfl (pc' := 57) rfl ?_
        refine s_aload_n w (hb hby dmk_57) rfl rfl (pc' := 58) rfl ?_
        refine s_iconst w (hb hby dmk_58) (v := 1) rfl (pc' := 59) rfl ?_
        refine w_ldC w ((A.ext E46).ext E61) (i := 1) (by decide) rfl (by decide) (mapI_getD (by omega)) (hb hby dmk_59) (pc' := 60) rfl ?_
        refine w_stC w V60 (i := 1) (by decide) rfl (by decide) (Nat.le_of_ble_eq_true rfl) (hus _ (getD_memC (j := 1) (by omega))).nar (hb hby dmk_60) (Or.inr r56) (pc' := 61) rfl fun T h62 w W63 V64 => ?_
        have E65 := Ext.wr' E61 W63 q55
        refine w_strInitP w hw1 (hw _ (List.mem_of_getElem? (i := 10) rfl)) (hw _ (List.mem_of_getElem? (i := 12) rfl)) (hw _ (List.mem_of_getElem? (i := 13) rfl)) (cs := [(us.getD 0 0), (us.getD 1 0)]) (n := 2) (A49.ext E65) (F_value_x45.ext E65) (F_coder_x45.ext E65) (show Arv Z h62 x52 k53 .char 2 (([(us.getD 0 0), (us.getD 1 0)] : List Int32).map Value.int) (.int 0) from V64) SC hz rfl rfl (by decide) (by decide) (by intro c q; simp only [List.mem_cons, List.not_mem_nil, or_false] at q; rcases q with rfl | rfl <;> first | exact (hus _ (getD_memC (j := 0) (by omega))) | exact (hus _ (getD_memC (j := 1) (by omega)))) (List.mem_of_getElem? (i := 1) rfl) (Or.inr r48) (Nat.le_trans hZ0.1 r48) (hb hby dmk_61) (by rw [hml]; rfl) (W := 1) (Nat.le_of_eq rfl) (by decide) (by decide) (by decide) (by decide) (pc' := 64) rfl fun T h66 w K67 F68 => ?_
        have E69 := Ext.kp (Ext.tr E46 E65) K67 (allS q47 all0)
        exact w_areturn w hEL hs hlk hret rfl rfl (hb hby dmk_64) (by decide) (by decide) ⟨x45, _, rfl, F68⟩
      · -- ¬ (n = 2)
        refine s_iload_n w (hb hby dmk_65) rfl (pc' := 66) rfl ?_
        refine s_iconst w (hb hby dmk_66) (v := 3) rfl (pc' := 67) rfl ?_
        refine s_icmp_ne w (hb hby dmk_67) (by decide) (pc1 := 70) rfl (pc2 := 99) rfl (fun ct70 => ?_) (fun ct70 => ?_)
        · -- n = 3
          refine w_new w (hw _ (List.mem_of_getElem? (i := 9) rfl)) (hw _ (List.mem_of_getElem? (i := 10) rfl)) (hw _ (List.mem_of_getElem? (i := 11) rfl)) (hb hby dmk_70) (pc' := 73) rfl (by decide) (by decide) fun T h71 x72 w E73 q74 r75 A76 D77 => ?_
          have F_coder_x72 : Fld Z h71 x72 "java/lang/String" "coder" "B" (.int 0) := D77 (Or.inr (hw _ (List.mem_of_getElem? (i := 35) rfl))) (ty := .byte) (by decide)
          have F_value_x72 : Fld Z h71 x72 "java/lang/String" "value" "[B" (.null) := D77 (Or.inr (hw _ (List.mem_of_getElem? (i := 37) rfl))) (ty := (.array .byte)) (by decide)
          refine s_dup w (hb hby dmk_73) rfl (pc' := 74) rfl ?_
          refine s_iconst w (hb hby dmk_74) (v := 3) rfl (pc' := 75) rfl ?_
          refine w_newP w (hw _ (List.mem_of_getElem? (i := 0) rfl)) rfl rfl (hb hby dmk_75) (by decide) (n := 3) (by decide) (by decide) (pc' := 77) rfl (by decide) (by decide) fun T h78 x79 k80 w E81 q82 r83 V84 => ?_
          refine s_dup w (hb hby dmk_77) rfl (pc' := 78) rfl ?_
          refine s_iconst w (hb hby dmk_78) (v := 0) rfl (pc' := 79) rfl ?_
          refine s_aload_n w (hb hby dmk_79) rfl rfl (pc' := 80) rfl ?_
          refine s_iconst w (hb hby dmk_80) (v := 0) rfl (pc' := 81) rfl ?_
          refine w_ldC w ((A.ext E73).ext E81) (i := 0) (by decide) rfl (by decide) (mapI_getD (by omega)) (hb hby dmk_81) (pc' := 82) rfl ?_
          refine w_stC w V84 (i := 0) (by decide) rfl (by decide) (Nat.le_of_ble_eq_true rfl) (hus _ (getD_memC (j := 0) (by omega))).nar (hb hby dmk_82) (Or.inr r83) (pc' := 83) rfl fun T h85 w W86 V87 => ?_
          have E88 := Ext.wr' E81 W86 q82
          refine s_dup w (hb hby dmk_83) rfl (pc' := 84) rfl ?_
          refine s_iconst w (hb hby dmk_84) (v := 1) rfl (pc' := 85) rfl ?_
          refine s_aload_n w (hb hby dmk_85) rfl rfl (pc' := 86) rfl ?_
          refine s_iconst w (hb hby dmk_86) (v := 1) rfl (pc' := 87) rfl ?_
          refine w_ldC w ((A.ext E73).ext E88) (i := 1) (by decide) rfl (by decide) (mapI_getD (by omega)) (hb hby dmk_87) (pc' := 88) rfl ?_
          refine w_stC w V87 (i := 1) (by decide) rfl (by decide) (Nat.le_of_ble_eq_true rfl) (hus _ (getD_memC (j := 1) (by omega))).nar (hb hby dmk_88) (Or.inr r83) (pc' := 89) rfl fun T h89 w W90 V91 => ?_
          have E92 := Ext.wr' E88 W90 q82
          refine s_dup w (hb hby dmk_89) rfl (pc' := 90) rfl ?_
          refine s_iconst w (hb hby dmk_90) (v := 2) rfl (pc' := 91) rfl ?_
          refine s_aload_n w (hb hby dmk_91) rfl rfl (pc' := 92) rfl ?_
          refine s_iconst w (hb hby dmk_92) (v := 2) rfl (pc' := 93) rfl ?_
          refine w_ldC w ((A.ext E73).ext E92) (i := 2) (by decide) rfl (by decide) (mapI_getD (by omega)) (hb hby dmk_93) (pc' := 94) rfl ?_
          refine w_stC w V91 (i := 2) (by decide) rfl (by decide) (Nat.le_of_ble_eq_true rfl) (hus _ (getD_memC (j := 2) (by omega))).nar (hb hby dmk_94) (Or.inr r83) (pc' := 95) rfl fun T h93 w W94 V95 => ?_
          have E96 := Ext.wr' E92 W94 q82
          refine w_strInitP w hw1 (hw _ (List.mem_of_getElem? (i := 10) rfl)) (hw _ (List.mem_of_getElem? (i := 12) rfl)) (hw _ (List.mem_of_getElem? (i := 13) rfl)) (cs := [(us.getD 0 0), (us.getD 1 0), (us.getD 2 0)]) (n := 3) (A76.ext E96) (F_value_x72.ext E96) (F_coder_x72.ext E96) (show Arv Z h93 x79 k80 .char 3 (([(us.getD 0 0), (us.getD 1 0), (us.getD 2 0)] : List Int32).map Value.int) (.int 0) from V95) SC hz rfl rfl (by decide) (by decide) (by intro c q; simp only [List.mem_cons, List.not_mem_nil, or_false] at q; rcases q with rfl | rfl | rfl <;> first | exact (hus _ (getD_memC (j := 0) (by omega))) | exact (hus _ (getD_memC (j := 1) (by omega))) | exact (hus _ (getD_memC (j := 2) (by omega)))) (List.mem_of_getElem? (i := 1) rfl) (Or.inr r75) (Nat.le_trans hZ0.1 r75) (hb hby dmk_95) (by rw [hml]; rfl) (W := 1) (Nat.le_of_eq rfl) (by decide) (by decide) (by decide) (by decide) (pc' := 98) rfl fun T h97 w K98 F99 => ?_
          have E100 := Ext.kp (Ext.tr E73 E96) K98 (allS q74 all0)
          exact w_areturn w hEL hs hlk hret rfl rfl (hb hby dmk_98) (by decide) (by decide) ⟨x72, _, rfl, F99⟩
        · -- ¬ (n = 3)
          refine s_iload_n w (hb hby dmk_99) rfl (pc' := 100) rfl ?_
          refine s_iconst w (hb hby dmk_100) (v := 4) rfl (pc' := 101) rfl ?_
          refine s_icmp_ne w (hb hby dmk_101) (by decide) (pc1 := 104) rfl (pc2 := 139) rfl (fun ct101 => ?_) (fun ct101 => ?_)
          · -- n = 4
            refine w_new w (hw _ (List.mem_of_getElem? (i := 9) rfl)) (hw _ (List.mem_of_getElem? (i := 10) rfl)) (hw _ (List.mem_of_getElem? (i := 11) rfl)) (hb hby dmk_104) (pc' := 107) rfl (by decide) (by decide) fun T h102 x103 w E104 q105 r106 A107 D108 => ?_
            have F_coder_x103 : Fld Z h102 x103 "java/lang/String" "coder" "B" (.int 0) := D108 (Or.inr (hw _ (List.mem_of_getElem? (i := 35) rfl))) (ty := .byte) (by decide)
            have F_value_x103 : Fld Z h102 x103 "java/lang/String" "value" "[B" (.null) := D108 (Or.inr (hw _ (List.mem_of_getElem? (i := 37) rfl))) (ty := (.array .byte)) (by decide)
            refine s_dup w (hb hby dmk_107) rfl (pc' := 108) rfl ?_
            refine s_iconst w (hb hby dmk_108) (v := 4) rfl (pc' := 109) rfl ?_
            refine w_newP w (hw _ (List.mem_of_getElem? (i := 0) rfl)) rfl rfl (hb hby dmk_109) (by decide) (n := 4) (by decide) (by decide) (pc' := 111) rfl (by decide) (by decide) fun T h109 x110 k111 w E112 q113 r114 V115 => ?_
            refine s_dup w (hb hby dmk_111) rfl (pc' := 112) rfl ?_
            refine s_iconst w (hb hby dmk_112) (v := 0) rfl (pc' := 113) rfl ?_
            refine s_aload_n w (hb hby dmk_113) rfl rfl (pc' := 114) rfl ?_
            refine s_iconst w (hb hby dmk_114) (v := 0) rfl (pc' := 115) rfl ?_
            refine w_ldC w ((A.ext E104).ext E112) (i := 0) (by decide) rfl (by decide) (mapI_getD (by omega)) (hb hby dmk_115) (pc' := 116) rfl ?_
            refine w_stC w V115 (i := 0) (by decide) rfl (by decide) (Nat.le_of_ble_eq_true rfl) (hus _ (getD_memC (j := 0) (by omega))).nar (hb hby dmk_116) (Or.inr r114) (pc' := 117) rfl fun T h116 w W117 V118 => ?_
            have E119 := Ext.wr' E112 W117 q113
            refine s_dup w (hb hby dmk_117) rfl (pc' := 118) rfl ?_
            refine s_iconst w (hb hby dmk_118) (v := 1) rfl (pc' := 119) rfl ?_
            refine s_aload_n w (hb hby dmk_119) rfl rfl (pc' := 120) rfl ?_
            refine s_iconst w (hb hby dmk_120) (v := 1) rfl (pc' := 121) rfl ?_
            refine w_ldC w ((A.ext E104).ext E119) (i := 1) (by decide) rfl (by decide) (mapI_getD (by omega)) (hb hby dmk_121) (pc' := 122) rfl ?_
            refine w_stC w V118 (i := 1) (by decide) rfl (by decide) (Nat.le_of_ble_eq_true rfl) (hus _ (getD_memC (j := 1) (by omega))).nar (hb hby dmk_122) (Or.inr r114) (pc' := 123) rfl fun T h120 w W121 V122 => ?_
            have E123 := Ext.wr' E119 W121 q113
            refine s_dup w (hb hby dmk_123) rfl (pc' := 124) rfl ?_
            refine s_iconst w (hb hby dmk_124) (v := 2) rfl (pc' := 125) rfl ?_
            refine s_aload_n w (hb hby dmk_125) rfl rfl (pc' := 126) rfl ?_
            refine s_iconst w (hb hby dmk_126) (v := 2) rfl (pc' := 127) rfl ?_
            refine w_ldC w ((A.ext E104).ext E123) (i := 2) (by decide) rfl (by decide) (mapI_getD (by omega)) (hb hby dmk_127) (pc' := 128) rfl ?_
            refine w_stC w V122 (i := 2) (by decide) rfl (by decide) (Nat.le_of_ble_eq_true rfl) (hus _ (getD_memC (j := 2) (by omega))).nar (hb hby dmk_128) (Or.inr r114) (pc' := 129) rfl fun T h124 w W125 V126 => ?_
            have E127 := Ext.wr' E123 W125 q113
            refine s_dup w (hb hby dmk_129) rfl (pc' := 130) rfl ?_
            refine s_iconst w (hb hby dmk_130) (v := 3) rfl (pc' := 131) rfl ?_
            refine s_aload_n w (hb hby dmk_131) rfl rfl (pc' := 132) rfl ?_
            refine s_iconst w (hb hby dmk_132) (v := 3) rfl (pc' := 133) rfl ?_
            refine w_ldC w ((A.ext E104).ext E127) (i := 3) (by decide) rfl (by decide) (mapI_getD (by omega)) (hb hby dmk_133) (pc' := 134) rfl ?_
            refine w_stC w V126 (i := 3) (by decide) rfl (by decide) (Nat.le_of_ble_eq_true rfl) (hus _ (getD_memC (j := 3) (by omega))).nar (hb hby dmk_134) (Or.inr r114) (pc' := 135) rfl fun T h128 w W129 V130 => ?_
            have E131 := Ext.wr' E127 W129 q113
            refine w_strInitP w hw1 (hw _ (List.mem_of_getElem? (i := 10) rfl)) (hw _ (List.mem_of_getElem? (i := 12) rfl)) (hw _ (List.mem_of_getElem? (i := 13) rfl)) (cs := [(us.getD 0 0), (us.getD 1 0), (us.getD 2 0), (us.getD 3 0)]) (n := 4) (A107.ext E131) (F_value_x103.ext E131) (F_coder_x103.ext E131) (show Arv Z h128 x110 k111 .char 4 (([(us.getD 0 0), (us.getD 1 0), (us.getD 2 0), (us.getD 3 0)] : List Int32).map Value.int) (.int 0) from V130) SC hz rfl rfl (by decide) (by decide) (by intro c q; simp only [List.mem_cons, List.not_mem_nil, or_false] at q; rcases q with rfl | rfl | rfl | rfl <;> first | exact (hus _ (getD_memC (j := 0) (by omega))) | exact (hus _ (getD_memC (j := 1) (by omega))) | exact (hus _ (getD_memC (j := 2) (by omega))) | exact (hus _ (getD_memC (j := 3) (by omega)))) (List.mem_of_getElem? (i := 1) rfl) (Or.inr r106) (Nat.le_trans hZ0.1 r106) (hb hby dmk_135) (by rw [hml]; rfl) (W := 1) (Nat.le_of_eq rfl) (by decide) (by decide) (by decide) (by decide) (pc' := 138) rfl fun T h132 w K133 F134 => ?_
            have E135 := Ext.kp (Ext.tr E104 E131) K133 (allS q105 all0)
            exact w_areturn w hEL hs hlk hret rfl rfl (hb hby dmk_138) (by decide) (by decide) ⟨x103, _, rfl, F134⟩
          · -- ¬ (n = 4)
            refine s_iload_n w (hb hby dmk_139) rfl (pc' := 140) rfl ?_
            refine s_iconst w (hb hby dmk_140) (v := 5) rfl (pc' := 141) rfl ?_
            refine s_icmp_ne w (hb hby dmk_141) (by decide) (pc1 := 144) rfl (pc2 := 185) rfl (fun ct136 => ?_) (fun ct136 => ?_)
            · -- n = 5
              refine w_new w (hw _ (List.mem_of_getElem? (i := 9) rfl)) (hw _ (List.mem_of_getElem? (i := 10) rfl)) (hw _ (List.mem_of_getElem? (i := 11) rfl)) (hb hby dmk_144) (pc' := 147) rfl (by decide) (by decide) fun T h137 x138 w E139 q140 r141 A142 D143 => ?_
              have F_coder_x138 : Fld Z h137 x138 "java/lang/String" "coder" "B" (.int 0) := D143 (Or.inr (hw _ (List.mem_of_getElem? (i := 35) rfl))) (ty := .byte) (by decide)
              have F_value_x138 : Fld Z h137 x138 "java/lang/String" "value" "[B" (.null) := D143 (Or.inr (hw _ (List.mem_of_getElem? (i := 37) rfl))) (ty := (.array .byte)) (by decide)
              refine s_dup w (hb hby dmk_147) rfl (pc' := 148) rfl ?_
              refine s_iconst w (hb hby dmk_148) (v := 5) rfl (pc' := 149) rfl ?_
              refine w_newP w (hw _ (List.mem_of_getElem? (i := 0) rfl)) rfl rfl (hb hby dmk_149) (by decide) (n := 5) (by decide) (by decide) (pc' := 151) rfl (by decide) (by decide) fun T h144 x145 k146 w E147 q148 r149 V150 => ?_
              refine s_dup w (hb hby dmk_151) rfl (pc' := 152) rfl ?_
              refine s_iconst w (hb hby dmk_152) (v := 0) rfl (pc' := 153) rfl ?_
              refine s_aload_n w (hb hby dmk_153) rfl rfl (pc' := 154) rfl ?_
              refine s_iconst w (hb hby dmk_154) (v := 0) rfl (pc' := 155) rfl ?_
              refine w_ldC w ((A.ext E139).ext E147) (i := 0) (by decide) rfl (by decide) (mapI_getD (by omega)) (hb hby dmk_155) (pc' := 156) rfl ?_
              refine w_stC w V150 (i := 0) (by decide) rfl (by decide) (Nat.le_of_ble_eq_true rfl) (hus _ (getD_memC (j := 0) (by omega))).nar (hb hby dmk_156) (Or.inr r149) (pc' := 157) rfl fun T h151 w W152 V153 => ?_
              have E154 := Ext.wr' E147 W152 q148
              refine s_dup w (hb hby dmk_157) rfl (pc' := 158) rfl ?_
              refine s_iconst w (hb hby dmk_158) (v := 1) rfl (pc' := 159) rfl ?_
              refine s_aload_n w (hb hby dmk_159) rfl rfl (pc' := 160) rfl ?_
              refine s_iconst w (hb hby dmk_160) (v := 1) rfl (pc' := 161) rfl ?_
              refine w_ldC w ((A.ext E139).ext E154) (i := 1) (by decide) rfl (by decide) (mapI_getD (by omega)) (hb hby dmk_161) (pc' := 162) rfl ?_
              refine w_stC w V153 (i := 1) (by decide) rfl (by decide) (Nat.le_of_ble_eq_true rfl) (hus _ (getD_memC (j := 1) (by omega))).nar (hb hby dmk_162) (Or.inr r149) (pc' := 163) rfl fun T h155 w W156 V157 => ?_
              have E158 := Ext.wr' E154 W156 q148
              refine s_dup w (hb hby dmk_163) rfl (pc' := 164) rfl ?_
              refine s_iconst w (hb hby dmk_164) (v := 2) rfl (pc' := 165) rfl ?_
              refine s_aload_n w (hb hby dmk_165) rfl rfl (pc' := 166) rfl ?_
              refine s_iconst w (hb hby dmk_166) (v := 2) rfl (pc' := 167) rfl ?_
              refine w_ldC w ((A.ext E139).ext E158) (i := 2) (by decide) rfl (by decide) (mapI_getD (by omega)) (hb hby dmk_167) (pc' := 168) rfl ?_
              refine w_stC w V157 (i := 2) (by decide) rfl (by decide) (Nat.le_of_ble_eq_true rfl) (hus _ (getD_memC (j := 2) (by omega))).nar (hb hby dmk_168) (Or.inr r149) (pc' := 169) rfl fun T h159 w W160 V161 => ?_
              have E162 := Ext.wr' E158 W160 q148
              refine s_dup w (hb hby dmk_169) rfl (pc' := 170) rfl ?_
              refine s_iconst w (hb hby dmk_170) (v := 3) rfl (pc' := 171) rfl ?_
              refine s_aload_n w (hb hby dmk_171) rfl rfl (pc' := 172) rfl ?_
              refine s_iconst w (hb hby dmk_172) (v := 3) rfl (pc' := 173) rfl ?_
              refine w_ldC w ((A.ext E139).ext E162) (i := 3) (by decide) rfl (by decide) (mapI_getD (by omega)) (hb hby dmk_173) (pc' := 174) rfl ?_
              refine w_stC w V161 (i := 3) (by decide) rfl (by decide) (Nat.le_of_ble_eq_true rfl) (hus _ (getD_memC (j := 3) (by omega))).nar (hb hby dmk_174) (Or.inr r149) (pc' := 175) rfl fun T h163 w W164 V165 => ?_
              have E166 := Ext.wr' E162 W164 q148
              refine s_dup w (hb hby dmk_175) rfl (pc' := 176) rfl ?_
              refine s_iconst w (hb hby dmk_176) (v := 4) rfl (pc' := 177) rfl ?_
              refine s_aload_n w (hb hby dmk_177) rfl rfl (pc' := 178) rfl ?_
              refine s_iconst w (hb hby dmk_178) (v := 4) rfl (pc' := 179) rfl ?_
              refine w_ldC w ((A.ext E139).ext E166) (i := 4) (by decide) rfl (by decide) (mapI_getD (by omega)) (hb hby dmk_179) (pc' := 180) rfl ?_
              refine w_stC w V165 (i := 4) (by decide) rfl (by decide) (Nat.le_of_ble_eq_true rfl) (hus _ (getD_memC (j := 4) (by omega))).nar (hb hby dmk_180) (Or.inr r149) (pc' := 181) rfl fun T h167 w W168 V169 => ?_
              have E170 := Ext.wr' E166 W168 q148
              refine w_strInitP w hw1 (hw _ (List.mem_of_getElem? (i := 10) rfl)) (hw _ (List.mem_of_getElem? (i := 12) rfl)) (hw _ (List.mem_of_getElem? (i := 13) rfl)) (cs := [(us.getD 0 0), (us.getD 1 0), (us.getD 2 0), (us.getD 3 0), (us.getD 4 0)]) (n := 5) (A142.ext E170) (F_value_x138.ext E170) (F_coder_x138.ext E170) (show Arv Z h167 x145 k146 .char 5 (([(us.getD 0 0), (us.getD 1 0), (us.getD 2 0), (us.getD 3 0), (us.getD 4 0)] : List Int32).map Value.int) (.int 0) from V169) SC hz rfl rfl (by decide) (by decide) (by intro c q; simp only [List.mem_cons, List.not_mem_nil, or_false] at q; rcases q with rfl | rfl | rfl | rfl | rfl <;> first | exact (hus _ (getD_memC (j := 0) (by omega))) | exact (hus _ (getD_memC (j := 1) (by omega))) | exact (hus _ (getD_memC (j := 2) (by omega))) | exact (hus _ (getD_memC (j := 3) (by omega))) | exact (hus _ (getD_memC (j := 4) (by omega)))) (List.mem_of_getElem? (i := 1) rfl) (Or.inr r141) (Nat.le_trans hZ0.1 r141) (hb hby dmk_181) (by rw [hml]; rfl) (W := 1) (Nat.le_of_eq rfl) (by decide) (by decide) (by decide) (by decide) (pc' := 184) rfl fun T h171 w K172 F173 => ?_
              have E174 := Ext.kp (Ext.tr E139 E170) K172 (allS q140 all0)
              exact w_areturn w hEL hs hlk hret rfl rfl (hb hby dmk_184) (by decide) (by decide) ⟨x138, _, rfl, F173⟩
            · -- ¬ (n = 5)
              refine s_iload_n w (hb hby dmk_185) rfl (pc' := 186) rfl ?_
              refine s_bipush w (hb hby dmk_186) (v := 6) rfl (pc' := 188) rfl ?_
              refine s_icmp_ne w (hb hby dmk_188) (by decide) (pc1 := 191) rfl (pc2 := 239) rfl (fun ct175 => ?_) (fun ct175 => ?_)
              · -- n = 6
                refine w_new w (hw _ (List.mem_of_getElem? (i := 9) rfl)) (hw _ (List.mem_of_getElem? (i := 10) rfl)) (hw _ (List.mem_of_getElem? (i := 11) rfl)) (hb hby dmk_191) (pc' := 194) rfl (by decide) (by decide) fun T h176 x177 w E178 q179 r180 A181 D182 => ?_
                have F_coder_x177 : Fld Z h176 x177 "java/lang/String" "coder" "B" (.int 0) := D182 (Or.inr (hw _ (List.mem_of_getElem? (i := 35) rfl))) (ty := .byte) (by decide)
                have F_value_x177 : Fld Z h176 x177 "java/lang/String" "value" "[B" (.null) := D182 (Or.inr (hw _ (List.mem_of_getElem? (i := 37) rfl))) (ty := (.array .byte)) (by decide)
                refine s_dup w (hb hby dmk_194) rfl (pc' := 195) rfl ?_
                refine s_bipush w (hb hby dmk_195) (v := 6) rfl (pc' := 197) rfl ?_
                refine w_newP w (hw _ (List.mem_of_getElem? (i := 0) rfl)) rfl rfl (hb hby dmk_197) (by decide) (n := 6) (by decide) (by decide) (pc' := 199) rfl (by decide) (by decide) fun T h183 x184 k185 w E186 q187 r188 V189 => ?_
                refine s_dup w (hb hby dmk_199) rfl (pc' := 200) rfl ?_
                refine s_iconst w (hb hby dmk_200) (v := 0) rfl (pc' := 201) rfl ?_
                refine s_aload_n w (hb hby dmk_201) rfl rfl (pc' := 202) rfl ?_
                refine s_iconst w (hb hby dmk_202) (v := 0) rfl (pc' := 203) rfl ?_
                refine w_ldC w ((A.ext E178).ext E186) (i := 0) (by decide) rfl (by decide) (mapI_getD (by omega)) (hb hby dmk_203) (pc' := 204) rfl ?_
                refine w_stC w V189 (i := 0) (by decide) rfl (by decide) (Nat.le_of_ble_eq_true rfl) (hus _ (getD_memC (j := 0) (by omega))).nar (hb hby dmk_204) (Or.inr r188) (pc' := 205) rfl fun T h190 w W191 V192 => ?_
                have E193 := Ext.wr' E186 W191 q187
                refine s_dup w (hb hby dmk_205) rfl (pc' := 206) rfl ?_
                refine s_iconst w (hb hby dmk_206) (v := 1) rfl (pc' := 207) rfl ?_
                refine s_aload_n w (hb hby dmk_207) rfl rfl (pc' := 208) rfl ?_
                refine s_iconst w (hb hby dmk_208) (v := 1) rfl (pc' := 209) rfl ?_
                refine w_ldC w ((A.ext E178).ext E193) (i := 1) (by decide) rfl (by decide) (mapI_getD (by omega)) (hb hby dmk_209) (pc' := 210) rfl ?_
                refine w_stC w V192 (i := 1) (by decide) rfl (by decide) (Nat.le_of_ble_eq_true rfl) (hus _ (getD_memC (j := 1) (by omega))).nar (hb hby dmk_210) (Or.inr r188) (pc' := 211) rfl fun T h194 w W195 V196 => ?_
                have E197 := Ext.wr' E193 W195 q187
                refine s_dup w (hb hby dmk_211) rfl (pc' := 212) rfl ?_
                refine s_iconst w (hb hby dmk_212) (v := 2) rfl (pc' := 213) rfl ?_
                refine s_aload_n w (hb hby dmk_213) rfl rfl (pc' := 214) rfl ?_
                refine s_iconst w (hb hby dmk_214) (v := 2) rfl (pc' := 215) rfl ?_
                refine w_ldC w ((A.ext E178).ext E197) (i := 2) (by decide) rfl (by decide) (mapI_getD (by omega)) (hb hby dmk_215) (pc' := 216) rfl ?_
                refine w_stC w V196 (i := 2) (by decide) rfl (by decide) (Nat.le_of_ble_eq_true rfl) (hus _ (getD_memC (j := 2) (by omega))).nar (hb hby dmk_216) (Or.inr r188) (pc' := 217) rfl fun T h198 w W199 V200 => ?_
                have E201 := Ext.wr' E197 W199 q187
                refine s_dup w (hb hby dmk_217) rfl (pc' := 218) rfl ?_
                refine s_iconst w (hb hby dmk_218) (v := 3) rfl (pc' := 219) rfl ?_
                refine s_aload_n w (hb hby dmk_219) rfl rfl (pc' := 220) rfl ?_
                refine s_iconst w (hb hby dmk_220) (v := 3) rfl (pc' := 221) rfl ?_
                refine w_ldC w ((A.ext E178).ext E201) (i := 3) (by decide) rfl (by decide) (mapI_getD (by omega)) (hb hby dmk_221) (pc' := 222) rfl ?_
                refine w_stC w V200 (i := 3) (by decide) rfl (by decide) (Nat.le_of_ble_eq_true rfl) (hus _ (getD_memC (j := 3) (by omega))).nar (hb hby dmk_222) (Or.inr r188) (pc' := 223) rfl fun T h202 w W203 V204 => ?_
                have E205 := Ext.wr' E201 W203 q187
                refine s_dup w (hb hby dmk_223) rfl (pc' := 224) rfl ?_
                refine s_iconst w (hb hby dmk_224) (v := 4) rfl (pc' := 225) rfl ?_
                refine s_aload_n w (hb hby dmk_225) rfl rfl (pc' := 226) rfl ?_
                refine s_iconst w (hb hby dmk_226) (v := 4) rfl (pc' := 227) rfl ?_
                refine w_ldC w ((A.ext E178).ext E205) (i := 4) (by decide) rfl (by decide) (mapI_getD (by omega)) (hb hby dmk_227) (pc' := 228) rfl ?_
                refine w_stC w V204 (i := 4) (by decide) rfl (by decide) (Nat.le_of_ble_eq_true rfl) (hus _ (getD_memC (j := 4) (by omega))).nar (hb hby dmk_228) (Or.inr r188) (pc' := 229) rfl fun T h206 w W207 V208 => ?_
                have E209 := Ext.wr' E205 W207 q187
                refine s_dup w (hb hby dmk_229) rfl (pc' := 230) rfl ?_
                refine s_iconst w (hb hby dmk_230) (v := 5) rfl (pc' := 231) rfl ?_
                refine s_aload_n w (hb hby dmk_231) rfl rfl (pc' := 232) rfl ?_
                refine s_iconst w (hb hby dmk_232) (v := 5) rfl (pc' := 233) rfl ?_
                refine w_ldC w ((A.ext E178).ext E209) (i := 5) (by decide) rfl (by decide) (mapI_getD (by omega)) (hb hby dmk_233) (pc' := 234) rfl ?_
                refine w_stC w V208 (i := 5) (by decide) rfl (by decide) (Nat.le_of_ble_eq_true rfl) (hus _ (getD_memC (j := 5) (by omega))).nar (hb hby dmk_234) (Or.inr r188) (pc' := 235) rfl fun T h210 w W211 V212 => ?_
                have E213 := Ext.wr' E209 W211 q187
                refine w_strInitP w hw1 (hw _ (List.mem_of_getElem? (i := 10) rfl)) (hw _ (List.mem_of_getElem? (i := 12) rfl)) (hw _ (List.mem_of_getElem? (i := 13) rfl)) (cs := [(us.getD 0 0), (us.getD 1 0), (us.getD 2 0), (us.getD 3 0), (us.getD 4 0), (us.getD 5 0)]) (n := 6) (A181.ext E213) (F_value_x177.ext E213) (F_coder_x177.ext E213) (show Arv Z h210 x184 k185 .char 6 (([(us.getD 0 0), (us.getD 1 0), (us.getD 2 0), (us.getD 3 0), (us.getD 4 0), (us.getD 5 0)] : List Int32).map Value.int) (.int 0) from V212) SC hz rfl rfl (by decide) (by decide) (by intro c q; simp only [List.mem_cons, List.not_mem_nil, or_false] at q; rcases q with rfl | rfl | rfl | rfl | rfl | rfl <;> first | exact (hus _ (getD_memC (j := 0) (by omega))) | exact (hus _ (getD_memC (j := 1) (by omega))) | exact (hus _ (getD_memC (j := 2) (by omega))) | exact (hus _ (getD_memC (j := 3) (by omega))) | exact (hus _ (getD_memC (j := 4) (by omega))) | exact (hus _ (getD_memC (j := 5) (by omega)))) (List.mem_of_getElem? (i := 1) rfl) (Or.inr r180) (Nat.le_trans hZ0.1 r180) (hb hby dmk_235) (by rw [hml]; rfl) (W := 1) (Nat.le_of_eq rfl) (by decide) (by decide) (by decide) (by decide) (pc' := 238) rfl fun T h214 w K215 F216 => ?_
                have E217 := Ext.kp (Ext.tr E178 E213) K215 (allS q179 all0)
                exact w_areturn w hEL hs hlk hret rfl rfl (hb hby dmk_238) (by decide) (by decide) ⟨x177, _, rfl, F216⟩
              · -- ¬ (n = 6)
                refine s_iload_n w (hb hby dmk_239) rfl (pc' := 240) rfl ?_
                refine s_bipush w (hb hby dmk_240) (v := 7) rfl (pc' := 242) rfl ?_
                refine s_icmp_ne w (hb hby dmk_242) (by decide) (pc1 := 245) rfl (pc2 := 301) rfl (fun ct218 => ?_) (fun ct218 => ?_)
                · -- n = 7
                  refine w_new w (hw _ (List.mem_of_getElem? (i := 9) rfl)) (hw _ (List.mem_of_getElem? (i := 10) rfl)) (hw _ (List.mem_of_getElem? (i := 11) rfl)) (hb hby dmk_245) (pc' := 248) rfl (by decide) (by decide) fun T h219 x220 w E221 q222 r223 A224 D225 => ?_
                  have F_coder_x220 : Fld Z h219 x220 "java/lang/String" "coder" "B" (.int 0) := D225 (Or.inr (hw _ (List.mem_of_getElem? (i := 35) rfl))) (ty := .byte) (by decide)
                  have F_value_x220 : Fld Z h219 x220 "java/lang/String" "value" "[B" (.null) := D225 (Or.inr (hw _ (List.mem_of_getElem? (i := 37) rfl))) (ty := (.array .byte)) (by decide)
                  refine s_dup w (hb hby dmk_248) rfl (pc' := 249) rfl ?_
                  refine s_bipush w (hb hby dmk_249) (v := 7) rfl (pc' := 251) rfl ?_
                  refine w_newP w (hw _ (List.mem_of_getElem? (i := 0) rfl)) rfl rfl (hb hby dmk_251) (by decide) (n := 7) (by decide) (by decide) (pc' := 253) rfl (by decide) (by decide) fun T h226 x227 k228 w E229 q230 r231 V232 => ?_
                  refine s_dup w (hb hby dmk_253) rfl (pc' := 254) rfl ?_
                  refine s_iconst w (hb hby dmk_254) (v := 0) rfl (pc' := 255) rfl ?_
                  refine s_aload_n w (hb hby dmk_255) rfl rfl (pc' := 256) rfl ?_
                  refine s_iconst w (hb hby dmk_256) (v := 0) rfl (pc' := 257) rfl ?_
                  refine w_ldC w ((A.ext E221).ext E229) (i := 0) (by decide) rfl (by decide) (mapI_getD (by omega)) (hb hby dmk_257) (pc' := 258) rfl ?_
                  refine w_stC w V232 (i := 0) (by decide) rfl (by decide) (Nat.le_of_ble_eq_true rfl) (hus _ (getD_memC (j := 0) (by omega))).nar (hb hby dmk_258) (Or.inr r231) (pc' := 259) rfl fun T h233 w W234 V235 => ?_
                  have E236 := Ext.wr' E229 W234 q230
                  refine s_dup w (hb hby dmk_259) rfl (pc' := 260) rfl ?_
                  refine s_iconst w (hb hby dmk_260) (v := 1) rfl (pc' := 261) rfl ?_
                  refine s_aload_n w (hb hby dmk_261) rfl rfl (pc' := 262) rfl ?_
                  refine s_iconst w (hb hby dmk_262) (v := 1) rfl (pc' := 263) rfl ?_
                  refine w_ldC w ((A.ext E221).ext E236) (i := 1) (by decide) rfl (by decide) (mapI_getD (by omega)) (hb hby dmk_263) (pc' := 264) rfl ?_
                  refine w_stC w V235 (i := 1) (by decide) rfl (by decide) (Nat.le_of_ble_eq_true rfl) (hus _ (getD_memC (j := 1) (by omega))).nar (hb hby dmk_264) (Or.inr r231) (pc' := 265) rfl fun T h237 w W238 V239 => ?_
                  have E240 := Ext.wr' E236 W238 q230
                  refine s_dup w (hb hby dmk_265) rfl (pc' := 266) rfl ?_
                  refine s_iconst w (hb hby dmk_266) (v := 2) rfl (pc' := 267) rfl ?_
                  refine s_aload_n w (hb hby dmk_267) rfl rfl (pc' := 268) rfl ?_
                  refine s_iconst w (hb hby dmk_268) (v := 2) rfl (pc' := 269) rfl ?_
                  refine w_ldC w ((A.ext E221).ext E240) (i := 2) (by decide) rfl (by decide) (mapI_getD (by omega)) (hb hby dmk_269) (pc' := 270) rfl ?_
                  refine w_stC w V239 (i := 2) (by decide) rfl (by decide) (Nat.le_of_ble_eq_true rfl) (hus _ (getD_memC (j := 2) (by omega))).nar (hb hby dmk_270) (Or.inr r231) (pc' := 271) rfl fun T h241 w W242 V243 => ?_
                  have E244 := Ext.wr' E240 W242 q230
                  refine s_dup w (hb hby dmk_271) rfl (pc' := 272) rfl ?_
                  refine s_iconst w (hb hby dmk_272) (v := 3) rfl (pc' := 273) rfl ?_
                  refine s_aload_n w (hb hby dmk_273) rfl rfl (pc' := 274) rfl ?_
                  refine s_iconst w (hb hby dmk_274) (v := 3) rfl (pc' := 275) rfl ?_
                  refine w_ldC w ((A.ext E221).ext E244) (i := 3) (by decide) rfl (by decide) (mapI_getD (by omega)) (hb hby dmk_275) (pc' := 276) rfl ?_
                  refine w_stC w V243 (i := 3) (by decide) rfl (by decide) (Nat.le_of_ble_eq_true rfl) (hus _ (getD_memC (j := 3) (by omega))).nar (hb hby dmk_276) (Or.inr r231) (pc' := 277) rfl fun T h245 w W246 V247 => ?_
                  have E248 := Ext.wr' E244 W246 q230
                  refine s_dup w (hb hby dmk_277) rfl (pc' := 278) rfl ?_
                  refine s_iconst w (hb hby dmk_278) (v := 4) rfl (pc' := 279) rfl ?_
                  refine s_aload_n w (hb hby dmk_279) rfl rfl (pc' := 280) rfl ?_
                  refine s_iconst w (hb hby dmk_280) (v := 4) rfl (pc' := 281) rfl ?_
                  refine w_ldC w ((A.ext E221).ext E248) (i := 4) (by decide) rfl (by decide) (mapI_getD (by omega)) (hb hby dmk_281) (pc' := 282) rfl ?_
                  refine w_stC w V247 (i := 4) (by decide) rfl (by decide) (Nat.le_of_ble_eq_true rfl) (hus _ (getD_memC (j := 4) (by omega))).nar (hb hby dmk_282) (Or.inr r231) (pc' := 283) rfl fun T h249 w W250 V251 => ?_
                  have E252 := Ext.wr' E248 W250 q230
                  refine s_dup w (hb hby dmk_283) rfl (pc' := 284) rfl ?_
                  refine s_iconst w (hb hby dmk_284) (v := 5) rfl (pc' := 285) rfl ?_
                  refine s_aload_n w (hb hby dmk_285) rfl rfl (pc' := 286) rfl ?_
                  refine s_iconst w (hb hby dmk_286) (v := 5) rfl (pc' := 287) rfl ?_
                  refine w_ldC w ((A.ext E221).ext E252) (i := 5) (by decide) rfl (by decide) (mapI_getD (by omega)) (hb hby dmk_287) (pc' := 288) rfl ?_
                  refine w_stC w V251 (i := 5) (by decide) rfl (by decide) (Nat.le_of_ble_eq_true rfl) (hus _ (getD_memC (j := 5) (by omega))).nar (hb hby dmk_288) (Or.inr r231) (pc' := 289) rfl fun T h253 w W254 V255 => ?_
                  have E256 := Ext.wr' E252 W254 q230
                  refine s_dup w (hb hby dmk_289) rfl (pc' := 290) rfl ?_
                  refine s_bipush w (hb hby dmk_290) (v := 6) rfl (pc' := 292) rfl ?_
                  refine s_aload_n w (hb hby dmk_292) rfl rfl (pc' := 293) rfl ?_
                  refine s_bipush w (hb hby dmk_293) (v := 6) rfl (pc' := 295) rfl ?_
                  refine w_ldC w ((A.ext E221).ext E256) (i := 6) (by decide) rfl (by decide) (mapI_getD (by omega)) (hb hby dmk_295) (pc' := 296) rfl ?_
                  refine w_stC w V255 (i := 6) (by decide) rfl (by decide) (Nat.le_of_ble_eq_true rfl) (hus _ (getD_memC (j := 6) (by omega))).nar (hb hby dmk_296) (Or.inr r231) (pc' := 297) rfl fun T h257 w W258 V259 => ?_
                  have E260 := Ext.wr' E256 W258 q230
                  refine w_strInitP w hw1 (hw _ (List.mem_of_getElem? (i := 10) rfl)) (hw _ (List.mem_of_getElem? (i := 12) rfl)) (hw _ (List.mem_of_getElem? (i := 13) rfl)) (cs := [(us.getD 0 0), (us.getD 1 0), (us.getD 2 0), (us.getD 3 0), (us.getD 4 0), (us.getD 5 0), (us.getD 6 0)]) (n := 7) (A224.ext E260) (F_value_x220.ext E260) (F_coder_x220.ext E260) (show Arv Z h257 x227 k228 .char 7 (([(us.getD 0 0), (us.getD 1 0), (us.getD 2 0), (us.getD 3 0), (us.getD 4 0), (us.getD 5 0), (us.getD 6 0)] : List Int32).map Value.int) (.int 0) from V259) SC hz rfl rfl (by decide) (by decide) (by intro c q; simp only [List.mem_cons, List.not_mem_nil, or_false] at q; rcases q with rfl | rfl | rfl | rfl | rfl | rfl | rfl <;> first | exact (hus _ (getD_memC (j := 0) (by omega))) | exact (hus _ (getD_memC (j := 1) (by omega))) | exact (hus _ (getD_memC (j := 2) (by omega))) | exact (hus _ (getD_memC (j := 3) (by omega))) | exact (hus _ (getD_memC (j := 4) (by omega))) | exact (hus _ (getD_memC (j := 5) (by omega))) | exact (hus _ (getD_memC (j := 6) (by omega)))) (List.mem_of_getElem? (i := 1) rfl) (Or.inr r223) (Nat.le_trans hZ0.1 r223) (hb hby dmk_297) (by rw [hml]; rfl) (W := 1) (Nat.le_of_eq rfl) (by decide) (by decide) (by decide) (by decide) (pc' := 300) rfl fun T h261 w K262 F263 => ?_
                  have E264 := Ext.kp (Ext.tr E221 E260) K262 (allS q222 all0)
                  exact w_areturn w hEL hs hlk hret rfl rfl (hb hby dmk_300) (by decide) (by decide) ⟨x220, _, rfl, F263⟩
                · -- ¬ (n = 7)
                  refine w_new w (hw _ (List.mem_of_getElem? (i := 9) rfl)) (hw _ (List.mem_of_getElem? (i := 10) rfl)) (hw _ (List.mem_of_getElem? (i := 11) rfl)) (hb hby dmk_301) (pc' := 304) rfl (by decide) (by decide) fun T h265 x266 w E267 q268 r269 A270 D271 => ?_
                  have F_coder_x266 : Fld Z h265 x266 "java/lang/String" "coder" "B" (.int 0) := D271 (Or.inr (hw _ (List.mem_of_getElem? (i := 35) rfl))) (ty := .byte) (by decide)
                  have F_value_x266 : Fld Z h265 x266 "java/lang/String" "value" "[B" (.null) := D271 (Or.inr (hw _ (List.mem_of_getElem? (i := 37) rfl))) (ty := (.array .byte)) (by decide)
                  refine s_dup w (hb hby dmk_304) rfl (pc' := 305) rfl ?_
                  refine s_bipush w (hb hby dmk_305) (v := 8) rfl (pc' := 307) rfl ?_
                  refine w_newP w (hw _ (List.mem_of_getElem? (i := 0) rfl)) rfl rfl (hb hby dmk_307) (by decide) (n := 8) (by decide) (by decide) (pc' := 309) rfl (by decide) (by decide) fun T h272 x273 k274 w E275 q276 r277 V278 => ?_
                  refine s_dup w (hb hby dmk_309) rfl (pc' := 310) rfl ?_
                  refine s_iconst w (hb hby dmk_310) (v := 0) rfl (pc' := 311) rfl ?_
                  refine s_aload_n w (hb hby dmk_311) rfl rfl (pc' := 312) rfl ?_
                  refine s_iconst w (hb hby dmk_312) (v := 0) rfl (pc' := 313) rfl ?_
                  refine w_ldC w ((A.ext E267).ext E275) (i := 0) (by decide) rfl (by decide) (mapI_getD (by omega)) (hb hby dmk_313) (pc' := 314) rfl ?_
                  refine w_stC w V278 (i := 0) (by decide) rfl (by decide) (Nat.le_of_ble_eq_true rfl) (hus _ (getD_memC (j := 0) (by omega))).nar (hb hby dmk_314) (Or.inr r277) (pc' := 315) rfl fun T h279 w W280 V281 => ?_
                  have E282 := Ext.wr' E275 W280 q276
                  refine s_dup w (hb hby dmk_315) rfl (pc' := 316) rfl ?_
                  refine s_iconst w (hb hby dmk_316) (v := 1) rfl (pc' := 317) rfl ?_
                  refine s_aload_n w (hb hby dmk_317) rfl rfl (pc' := 318) rfl ?_
                  refine s_iconst w (hb hby dmk_318) (v := 1) rfl (pc' := 319) rfl ?_
                  refine w_ldC w ((A.ext E267).ext E282) (i := 1) (by decide) rfl (by decide) (mapI_getD (by omega)) (hb hby dmk_319) (pc' := 320) rfl ?_
                  refine w_stC w V281 (i := 1) (by decide) rfl (by decide) (Nat.le_of_ble_eq_true rfl) (hus _ (getD_memC (j := 1) (by omega))).nar (hb hby dmk_320) (Or.inr r277) (pc' := 321) rfl fun T h283 w W284 V285 => ?_
                  have E286 := Ext.wr' E282 W284 q276
                  refine s_dup w (hb hby dmk_321) rfl (pc' := 322) rfl ?_
                  refine s_iconst w (hb hby dmk_322) (v := 2) rfl (pc' := 323) rfl ?_
                  refine s_aload_n w (hb hby dmk_323) rfl rfl (pc' := 324) rfl ?_
                  refine s_iconst w (hb hby dmk_324) (v := 2) rfl (pc' := 325) rfl ?_
                  refine w_ldC w ((A.ext E267).ext E286) (i := 2) (by decide) rfl (by decide) (mapI_getD (by omega)) (hb hby dmk_325) (pc' := 326) rfl ?_
                  refine w_stC w V285 (i := 2) (by decide) rfl (by decide) (Nat.le_of_ble_eq_true rfl) (hus _ (getD_memC (j := 2) (by omega))).nar (hb hby dmk_326) (Or.inr r277) (pc' := 327) rfl fun T h287 w W288 V289 => ?_
                  have E290 := Ext.wr' E286 W288 q276
                  refine s_dup w (hb hby dmk_327) rfl (pc' := 328) rfl ?_
                  refine s_iconst w (hb hby dmk_328) (v := 3) rfl (pc' := 329) rfl ?_
                  refine s_aload_n w (hb hby dmk_329) rfl rfl (pc' := 330) rfl ?_
                  refine s_iconst w (hb hby dmk_330) (v := 3) rfl (pc' := 331) rfl ?_
                  refine w_ldC w ((A.ext E267).ext E290) (i := 3) (by decide) rfl (by decide) (mapI_getD (by omega)) (hb hby dmk_331) (pc' := 332) rfl ?_
                  refine w_stC w V289 (i := 3) (by decide) rfl (by decide) (Nat.le_of_ble_eq_true rfl) (hus _ (getD_memC (j := 3) (by omega))).nar (hb hby dmk_332) (Or.inr r277) (pc' := 333) rfl fun T h291 w W292 V293 => ?_
                  have E294 := Ext.wr' E290 W292 q276
                  refine s_dup w (hb hby dmk_333) rfl (pc' := 334) rfl ?_
                  refine s_iconst w (hb hby dmk_334) (v := 4) rfl (pc' := 335) rfl ?_
                  refine s_aload_n w (hb hby dmk_335) rfl rfl (pc' := 336) rfl ?_
                  refine s_iconst w (hb hby dmk_336) (v := 4) rfl (pc' := 337) rfl ?_
                  refine w_ldC w ((A.ext E267).ext E294) (i := 4) (by decide) rfl (by decide) (mapI_getD (by omega)) (hb hby dmk_337) (pc' := 338) rfl ?_
                  refine w_stC w V293 (i := 4) (by decide) rfl (by decide) (Nat.le_of_ble_eq_true rfl) (hus _ (getD_memC (j := 4) (by omega))).nar (hb hby dmk_338) (Or.inr r277) (pc' := 339) rfl fun T h295 w W296 V297 => ?_
                  have E298 := Ext.wr' E294 W296 q276
                  refine s_dup w (hb hby dmk_339) rfl (pc' := 340) rfl ?_
                  refine s_iconst w (hb hby dmk_340) (v := 5) rfl (pc' := 341) rfl ?_
                  refine s_aload_n w (hb hby dmk_341) rfl rfl (pc' := 342) rfl ?_
                  refine s_iconst w (hb hby dmk_342) (v := 5) rfl (pc' := 343) rfl ?_
                  refine w_ldC w ((A.ext E267).ext E298) (i := 5) (by decide) rfl (by decide) (mapI_getD (by omega)) (hb hby dmk_343) (pc' := 344) rfl ?_
                  refine w_stC w V297 (i := 5) (by decide) rfl (by decide) (Nat.le_of_ble_eq_true rfl) (hus _ (getD_memC (j := 5) (by omega))).nar (hb hby dmk_344) (Or.inr r277) (pc' := 345) rfl fun T h299 w W300 V301 => ?_
                  have E302 := Ext.wr' E298 W300 q276
                  refine s_dup w (hb hby dmk_345) rfl (pc' := 346) rfl ?_
                  refine s_bipush w (hb hby dmk_346) (v := 6) rfl (pc' := 348) rfl ?_
                  refine s_aload_n w (hb hby dmk_348) rfl rfl (pc' := 349) rfl ?_
                  refine s_bipush w (hb hby dmk_349) (v := 6) rfl (pc' := 351) rfl ?_
                  refine w_ldC w ((A.ext E267).ext E302) (i := 6) (by decide) rfl (by decide) (mapI_getD (by omega)) (hb hby dmk_351) (pc' := 352) rfl ?_
                  refine w_stC w V301 (i := 6) (by decide) rfl (by decide) (Nat.le_of_ble_eq_true rfl) (hus _ (getD_memC (j := 6) (by omega))).nar (hb hby dmk_352) (Or.inr r277) (pc' := 353) rfl fun T h303 w W304 V305 => ?_
                  have E306 := Ext.wr' E302 W304 q276
                  refine s_dup w (hb hby dmk_353) rfl (pc' := 354) rfl ?_
                  refine s_bipush w (hb hby dmk_354) (v := 7) rfl (pc' := 356) rfl ?_
                  refine s_aload_n w (hb hby dmk_356) rfl rfl (pc' := 357) rfl ?_
                  refine s_bipush w (hb hby dmk_357) (v := 7) rfl (pc' := 359) rfl ?_
                  refine w_ldC w ((A.ext E267).ext E306) (i := 7) (by decide) rfl (by decide) (mapI_getD (by omega)) (hb hby dmk_359) (pc' := 360) rfl ?_
                  refine w_stC w V305 (i := 7) (by decide) rfl (by decide) (Nat.le_of_ble_eq_true rfl) (hus _ (getD_memC (j := 7) (by omega))).nar (hb hby dmk_360) (Or.inr r277) (pc' := 361) rfl fun T h307 w W308 V309 => ?_
                  have E310 := Ext.wr' E306 W308 q276
                  refine w_strInitP w hw1 (hw _ (List.mem_of_getElem? (i := 10) rfl)) (hw _ (List.mem_of_getElem? (i := 12) rfl)) (hw _ (List.mem_of_getElem? (i := 13) rfl)) (cs := [(us.getD 0 0), (us.getD 1 0), (us.getD 2 0), (us.getD 3 0), (us.getD 4 0), (us.getD 5 0), (us.getD 6 0), (us.getD 7 0)]) (n := 8) (A270.ext E310) (F_value_x266.ext E310) (F_coder_x266.ext E310) (show Arv Z h307 x273 k274 .char 8 (([(us.getD 0 0), (us.getD 1 0), (us.getD 2 0), (us.getD 3 0), (us.getD 4 0), (us.getD 5 0), (us.getD 6 0), (us.getD 7 0)] : List Int32).map Value.int) (.int 0) from V309) SC hz rfl rfl (by decide) (by decide) (by intro c q; simp only [List.mem_cons, List.not_mem_nil, or_false] at q; rcases q with rfl | rfl | rfl | rfl | rfl | rfl | rfl | rfl <;> first | exact (hus _ (getD_memC (j := 0) (by omega))) | exact (hus _ (getD_memC (j := 1) (by omega))) | exact (hus _ (getD_memC (j := 2) (by omega))) | exact (hus _ (getD_memC (j := 3) (by omega))) | exact (hus _ (getD_memC (j := 4) (by omega))) | exact (hus _ (getD_memC (j := 5) (by omega))) | exact (hus _ (getD_memC (j := 6) (by omega))) | exact (hus _ (getD_memC (j := 7) (by omega)))) (List.mem_of_getElem? (i := 1) rfl) (Or.inr r269) (Nat.le_trans hZ0.1 r269) (hb hby dmk_361) (by rw [hml]; rfl) (W := 1) (Nat.le_of_eq rfl) (by decide) (by decide) (by decide) (by decide) (pc' := 364) rfl fun T h311 w K312 F313 => ?_
                  have E314 := Ext.kp (Ext.tr E267 E310) K312 (allS q268 all0)
                  exact w_areturn w hEL hs hlk hret rfl rfl (hb hby dmk_364) (by decide) (by decide) ⟨x266, _, rfl, F313⟩
theorem ef_law (m : MethodId) (p0 : Int32) (p1 : Int32) (p2 : Int32) (p3 : Int32) (p4 : Int32) (p5 : Int32) : entryFrame m #[.int p0, .int p1, .int p2, .int p3, .int p4, .int p5] maxLocals = mkF m 0 #[.val (.int p0), .val (.int p1), .val (.int p2), .val (.int p3), .val (.int p4), .val (.int p5), .unset, .unset, .unset, .unset, .unset, .unset] [] := by first | (simp [entryFrame, mkF, argsToLocals, Value.category, maxLocals]; done) | rfl
set_option maxRecDepth 65536 in
set_option maxHeartbeats 40000000 in
theorem rm_law {l : Launch} {Z : State} {a0 : Array Value} {zc : Int32} {aD : Addr} {aG : Addr} {aT : Addr} {fD : Addr} {fG : Addr} {fT : Addr} {va : Addr} {eO : Addr} {kv : ClassId} (G : Gl Z a0 zc aD aG aT fD fG fT va eO kv) (h : Heap) (p0 : Int32) (p1 : Int32) (p2 : Int32) (p3 : Int32) (p4 : Int32) (p5 : Int32)  :
    Met l Z consts_1 x code maxLocals ret room_1 #[.int p0, .int p1, .int p2, .int p3, .int p4, .int p5] h [] [] (fun v h' => v = some (.int 1)) := by
  have G0 := G
  obtain ⟨hw, hEL, SC, hz, sD, sG, sT, sV, sE, xE, vE, xV, rV, xD, xG, xT, lD, lG, lT, tD, tG, tT⟩ := G
  have hw1 : ∀ d ∈ StrChars.Road.words, d.before a0 Z = true := fun d q => hw d (sub1 d q)
  have hwA : ∀ d ∈ Bundle.stringAtoms, d.before a0 Z = true := fun d q => hw d (subA d q)
  have hw2 : ∀ d ∈ wordsS, d.before a0 Z = true := fun d q => hw d (sub2 d q)
  have hwE : ∀ d ∈ StrChars.Road.wordsEq, d.before a0 Z = true := fun d q => hw d (subE d q)
  refine Met.of (plainFor_of_name pn_3) ?_
  intro p e s m below meth c T hnm hret hlk hby hml hs w
  have hZ0 := w.old
  refine Run.cast (ef_law m p0 p1 p2 p3 p4 p5) ?_
  refine s_iload_n w (hb hby at_0) rfl (pc' := 1) rfl ?_
  refine s_iconst w (hb hby at_1) (v := 3) rfl (pc' := 2) rfl ?_
  refine s_iand w (hb hby at_2) (pc' := 3) rfl ?_
  generalize hv1 : ((p0 &&& 3) : Int32) = v1
  refine s_istore w #[.val (.int p0), .val (.int p1), .val (.int p2), .val (.int p3), .val (.int p4), .val (.int p5), .val (.int v1), .unset, .unset, .unset, .unset, .unset] (hb hby at_3) rfl (pc' := 5) rfl ?_
  refine s_bipush w (hb hby at_5) (v := 8) rfl (pc' := 7) rfl ?_
  refine w_newP w (hw _ (List.mem_of_getElem? (i := 0) rfl)) rfl rfl (hb hby at_7) (by decide) (n := 8) (by decide) (by decide) (pc' := 9) rfl (by decide) (by decide) fun T h2 x3 k4 w E5 q6 r7 V8 => ?_
  refine s_astore w #[.val (.int p0), .val (.int p1), .val (.int p2), .val (.int p3), .val (.int p4), .val (.int p5), .val (.int v1), .val (.ref x3), .unset, .unset, .unset, .unset] (hb hby at_9) rfl rfl (pc' := 11) rfl ?_
  refine s_aload w (hb hby at_11) rfl rfl (pc' := 13) rfl ?_
  refine s_iconst w (hb hby at_13) (v := 0) rfl (pc' := 14) rfl ?_
  refine s_iload_n w (hb hby at_14) rfl (pc' := 15) rfl ?_
  refine s_iconst w (hb hby at_15) (v := 0) rfl (pc' := 16) rfl ?_
  refine w_staticN w hEL (y := (⟨"com/example/tuikuan/tuikuan/ChannelNamedPinLaw", "b", "(II)C"⟩ : MethodName)) (hw _ (List.mem_of_getElem? (i := 1) rfl)) (hw _ (List.mem_of_getElem? (i := 2) rfl)) (hw _ (List.mem_of_getElem? (i := 3) rfl)) (hw _ (List.mem_of_getElem? (i := 4) rfl)) (by decide) (rm_b G0 h2 p2 0) all0 all0 (argsL := [.int p2, .int 0]) (rest := [.int 0, .ref x3]) (lenOf (by decide +kernel : parseMethodDescriptor "(II)C" = some ⟨[.int, .int], (some .char)⟩) rfl) rfl rfl (hb hby at_16) (by rw [hml]; rfl) (W := 2) (Nat.le_of_eq rfl) (by decide) (by decide) (by decide) (by decide) (pc' := 19) rfl fun u9 N10 T h11 w K12 P13 => ?_
  obtain ⟨rfl, P14⟩ := P13
  obtain ⟨q15, rfl, rfl, lq15⟩ := P14
  show Run p e below _ T (mkF m 19 #[.val (.int p0), .val (.int p1), .val (.int p2), .val (.int p3), .val (.int p4), .val (.int p5), .val (.int v1), .val (.ref x3), .unset, .unset, .unset, .unset] [.int q15, .int 0, .ref x3])
  refine w_stC w V8 (i := 0) (by decide) rfl (by decide) (Nat.le_of_ble_eq_true rfl) lq15.nar (hb hby at_19) (Or.inr r7) (pc' := 20) rfl fun T h16 w W17 V18 => ?_
  have E19 := Ext.wr' E5 W17 q6
  refine s_aload w (hb hby at_20) rfl rfl (pc' := 22) rfl ?_
  refine s_iconst w (hb hby at_22) (v := 1) rfl (pc' := 23) rfl ?_
  refine s_iload_n w (hb hby at_23) rfl (pc' := 24) rfl ?_
  refine s_iconst w (hb hby at_24) (v := 1) rfl (pc' := 25) rfl ?_
  refine w_staticN w hEL (y := (⟨"com/example/tuikuan/tuikuan/ChannelNamedPinLaw", "b", "(II)C"⟩ : MethodName)) (hw _ (List.mem_of_getElem? (i := 1) rfl)) (hw _ (List.mem_of_getElem? (i := 2) rfl)) (hw _ (List.mem_of_getElem? (i := 3) rfl)) (hw _ (List.mem_of_getElem? (i := 4) rfl)) (by decide) (rm_b G0 h16 p2 1) all0 all0 (argsL := [.int p2, .int 1]) (rest := [.int 1, .ref x3]) (lenOf (by decide +kernel : parseMethodDescriptor "(II)C" = some ⟨[.int, .int], (some .char)⟩) rfl) rfl rfl (hb hby at_25) (by rw [hml]; rfl) (W := 2) (Nat.le_of_eq rfl) (by decide) (by decide) (by decide) (by decide) (pc' := 28) rfl fun u20 N21 T h22 w K23 P24 => ?_
  obtain ⟨rfl, P25⟩ := P24
  obtain ⟨q26, rfl, rfl, lq26⟩ := P25
  show Run p e below _ T (mkF m 28 #[.val (.int p0), .val (.int p1), .val (.int p2), .val (.int p3), .val (.int p4), .val (.int p5), .val (.int v1), .val (.ref x3), .unset, .unset, .unset, .unset] [.int q26, .int 1, .ref x3])
  refine w_stC w V18 (i := 1) (by decide) rfl (by decide) (Nat.le_of_ble_eq_true rfl) lq26.nar (hb hby at_28) (Or.inr r7) (pc' := 29) rfl fun T h27 w W28 V29 => ?_
  have E30 := Ext.wr' E19 W28 q6
  refine s_aload w (hb hby at_29) rfl rfl (pc' := 31) rfl ?_
  refine s_iconst w (hb hby at_31) (v := 2) rfl (pc' := 32) rfl ?_
  refine s_iload_n w (hb hby at_32) rfl (pc' := 33) rfl ?_
  refine s_iconst w (hb hby at_33) (v := 2) rfl (pc' := 34) rfl ?_
  refine w_staticN w hEL (y := (⟨"com/example/tuikuan/tuikuan/ChannelNamedPinLaw", "b", "(II)C"⟩ : MethodName)) (hw _ (List.mem_of_getElem? (i := 1) rfl)) (hw _ (List.mem_of_getElem? (i := 2) rfl)) (hw _ (List.mem_of_getElem? (i := 3) rfl)) (hw _ (List.mem_of_getElem? (i := 4) rfl)) (by decide) (rm_b G0 h27 p2 2) all0 all0 (argsL := [.int p2, .int 2]) (rest := [.int 2, .ref x3]) (lenOf (by decide +kernel : parseMethodDescriptor "(II)C" = some ⟨[.int, .int], (some .char)⟩) rfl) rfl rfl (hb hby at_34) (by rw [hml]; rfl) (W := 2) (Nat.le_of_eq rfl) (by decide) (by decide) (by decide) (by decide) (pc' := 37) rfl fun u31 N32 T h33 w K34 P35 => ?_
  obtain ⟨rfl, P36⟩ := P35
  obtain ⟨q37, rfl, rfl, lq37⟩ := P36
  show Run p e below _ T (mkF m 37 #[.val (.int p0), .val (.int p1), .val (.int p2), .val (.int p3), .val (.int p4), .val (.int p5), .val (.int v1), .val (.ref x3), .unset, .unset, .unset, .unset] [.int q37, .int 2, .ref x3])
  refine w_stC w V29 (i := 2) (by decide) rfl (by decide) (Nat.le_of_ble_eq_true rfl) lq37.nar (hb hby at_37) (Or.inr r7) (pc' := 38) rfl fun T h38 w W39 V40 => ?_
  have E41 := Ext.wr' E30 W39 q6
  refine s_aload w (hb hby at_38) rfl rfl (pc' := 40) rfl ?_
  refine s_iconst w (hb hby at_40) (v := 3) rfl (pc' := 41) rfl ?_
  refine s_iload_n w (hb hby at_41) rfl (pc' := 42) rfl ?_
  refine s_iconst w (hb hby at_42) (v := 3) rfl (pc' := 43) rfl ?_
  refine w_staticN w hEL (y := (⟨"com/example/tuikuan/tuikuan/ChannelNamedPinLaw", "b", "(II)C"⟩ : MethodName)) (hw _ (List.mem_of_getElem? (i := 1) rfl)) (hw _ (List.mem_of_getElem? (i := 2) rfl)) (hw _ (List.mem_of_getElem? (i := 3) rfl)) (hw _ (List.mem_of_getElem? (i := 4) rfl)) (by decide) (rm_b G0 h38 p2 3) all0 all0 (argsL := [.int p2, .int 3]) (rest := [.int 3, .ref x3]) (lenOf (by decide +kernel : parseMethodDescriptor "(II)C" = some ⟨[.int, .int], (some .char)⟩) rfl) rfl rfl (hb hby at_43) (by rw [hml]; rfl) (W := 2) (Nat.le_of_eq rfl) (by decide) (by decide) (by decide) (by decide) (pc' := 46) rfl fun u42 N43 T h44 w K45 P46 => ?_
  obtain ⟨rfl, P47⟩ := P46
  obtain ⟨q48, rfl, rfl, lq48⟩ := P47
  show Run p e below _ T (mkF m 46 #[.val (.int p0), .val (.int p1), .val (.int p2), .val (.int p3), .val (.int p4), .val (.int p5), .val (.int v1), .val (.ref x3), .unset, .unset, .unset, .unset] [.int q48, .int 3, .ref x3])
  refine w_stC w V40 (i := 3) (by decide) rfl (by decide) (Nat.le_of_ble_eq_true rfl) lq48.nar (hb hby at_46) (Or.inr r7) (pc' := 47) rfl fun T h49 w W50 V51 => ?_
  have E52 := Ext.wr' E41 W50 q6
  refine s_aload w (hb hby at_47) rfl rfl (pc' := 49) rfl ?_
  refine s_iconst w (hb hby at_49) (v := 4) rfl (pc' := 50) rfl ?_
  refine s_iload_n w (hb hby at_50) rfl (pc' := 51) rfl ?_
  refine s_iconst w (hb hby at_51) (v := 0) rfl (pc' := 52) rfl ?_
  refine w_staticN w hEL (y := (⟨"com/example/tuikuan/tuikuan/ChannelNamedPinLaw", "b", "(II)C"⟩ : MethodName)) (hw _ (List.mem_of_getElem? (i := 1) rfl)) (hw _ (List.mem_of_getElem? (i := 2) rfl)) (hw _ (List.mem_of_getElem? (i := 3) rfl)) (hw _ (List.mem_of_getElem? (i := 4) rfl)) (by decide) (rm_b G0 h49 p3 0) all0 all0 (argsL := [.int p3, .int 0]) (rest := [.int 4, .ref x3]) (lenOf (by decide +kernel : parseMethodDescriptor "(II)C" = some ⟨[.int, .int], (some .char)⟩) rfl) rfl rfl (hb hby at_52) (by rw [hml]; rfl) (W := 2) (Nat.le_of_eq rfl) (by decide) (by decide) (by decide) (by decide) (pc' := 55) rfl fun u53 N54 T h55 w K56 P57 => ?_
  obtain ⟨rfl, P58⟩ := P57
  obtain ⟨q59, rfl, rfl, lq59⟩ := P58
  show Run p e below _ T (mkF m 55 #[.val (.int p0), .val (.int p1), .val (.int p2), .val (.int p3), .val (.int p4), .val (.int p5), .val (.int v1), .val (.ref x3), .unset, .unset, .unset, .unset] [.int q59, .int 4, .ref x3])
  refine w_stC w V51 (i := 4) (by decide) rfl (by decide) (Nat.le_of_ble_eq_true rfl) lq59.nar (hb hby at_55) (Or.inr r7) (pc' := 56) rfl fun T h60 w W61 V62 => ?_
  have E63 := Ext.wr' E52 W61 q6
  refine s_aload w (hb hby at_56) rfl rfl (pc' := 58) rfl ?_
  refine s_iconst w (hb hby at_58) (v := 5) rfl (pc' := 59) rfl ?_
  refine s_iload_n w (hb hby at_59) rfl (pc' := 60) rfl ?_
  refine s_iconst w (hb hby at_60) (v := 1) rfl (pc' := 61) rfl ?_
  refine w_staticN w hEL (y := (⟨"com/example/tuikuan/tuikuan/ChannelNamedPinLaw", "b", "(II)C"⟩ : MethodName)) (hw _ (List.mem_of_getElem? (i := 1) rfl)) (hw _ (List.mem_of_getElem? (i := 2) rfl)) (hw _ (List.mem_of_getElem? (i := 3) rfl)) (hw _ (List.mem_of_getElem? (i := 4) rfl)) (by decide) (rm_b G0 h60 p3 1) all0 all0 (argsL := [.int p3, .int 1]) (rest := [.int 5, .ref x3]) (lenOf (by decide +kernel : parseMethodDescriptor "(II)C" = some ⟨[.int, .int], (some .char)⟩) rfl) rfl rfl (hb hby at_61) (by rw [hml]; rfl) (W := 2) (Nat.le_of_eq rfl) (by decide) (by decide) (by decide) (by decide) (pc' := 64) rfl fun u64 N65 T h66 w K67 P68 => ?_
  obtain ⟨rfl, P69⟩ := P68
  obtain ⟨q70, rfl, rfl, lq70⟩ := P69
  show Run p e below _ T (mkF m 64 #[.val (.int p0), .val (.int p1), .val (.int p2), .val (.int p3), .val (.int p4), .val (.int p5), .val (.int v1), .val (.ref x3), .unset, .unset, .unset, .unset] [.int q70, .int 5, .ref x3])
  refine w_stC w V62 (i := 5) (by decide) rfl (by decide) (Nat.le_of_ble_eq_true rfl) lq70.nar (hb hby at_64) (Or.inr r7) (pc' := 65) rfl fun T h71 w W72 V73 => ?_
  have E74 := Ext.wr' E63 W72 q6
  refine s_aload w (hb hby at_65) rfl rfl (pc' := 67) rfl ?_
  refine s_bipush w (hb hby at_67) (v := 6) rfl (pc' := 69) rfl ?_
  refine s_iload_n w (hb hby at_69) rfl (pc' := 70) rfl ?_
  refine s_iconst w (hb hby at_70) (v := 2) rfl (pc' := 71) rfl ?_
  refine w_staticN w hEL (y := (⟨"com/example/tuikuan/tuikuan/ChannelNamedPinLaw", "b", "(II)C"⟩ : MethodName)) (hw _ (List.mem_of_getElem? (i := 1) rfl)) (hw _ (List.mem_of_getElem? (i := 2) rfl)) (hw _ (List.mem_of_getElem? (i := 3) rfl)) (hw _ (List.mem_of_getElem? (i := 4) rfl)) (by decide) (rm_b G0 h71 p3 2) all0 all0 (argsL := [.int p3, .int 2]) (rest := [.int 6, .ref x3]) (lenOf (by decide +kernel : parseMethodDescriptor "(II)C" = some ⟨[.int, .int], (some .char)⟩) rfl) rfl rfl (hb hby at_71) (by rw [hml]; rfl) (W := 2) (Nat.le_of_eq rfl) (by decide) (by decide) (by decide) (by decide) (pc' := 74) rfl fun u75 N76 T h77 w K78 P79 => ?_
  obtain ⟨rfl, P80⟩ := P79
  obtain ⟨q81, rfl, rfl, lq81⟩ := P80
  show Run p e below _ T (mkF m 74 #[.val (.int p0), .val (.int p1), .val (.int p2), .val (.int p3), .val (.int p4), .val (.int p5), .val (.int v1), .val (.ref x3), .unset, .unset, .unset, .unset] [.int q81, .int 6, .ref x3])
  refine w_stC w V73 (i := 6) (by decide) rfl (by decide) (Nat.le_of_ble_eq_true rfl) lq81.nar (hb hby at_74) (Or.inr r7) (pc' := 75) rfl fun T h82 w W83 V84 => ?_
  have E85 := Ext.wr' E74 W83 q6
  refine s_aload w (hb hby at_75) rfl rfl (pc' := 77) rfl ?_
  refine s_bipush w (hb hby at_77) (v := 7) rfl (pc' := 79) rfl ?_
  refine s_iload_n w (hb hby at_79) rfl (pc' := 80) rfl ?_
  refine s_iconst w (hb hby at_80) (v := 3) rfl (pc' := 81) rfl ?_
  refine w_staticN w hEL (y := (⟨"com/example/tuikuan/tuikuan/ChannelNamedPinLaw", "b", "(II)C"⟩ : MethodName)) (hw _ (List.mem_of_getElem? (i := 1) rfl)) (hw _ (List.mem_of_getElem? (i := 2) rfl)) (hw _ (List.mem_of_getElem? (i := 3) rfl)) (hw _ (List.mem_of_getElem? (i := 4) rfl)) (by decide) (rm_b G0 h82 p3 3) all0 all0 (argsL := [.int p3, .int 3]) (rest := [.int 7, .ref x3]) (lenOf (by decide +kernel : parseMethodDescriptor "(II)C" = some ⟨[.int, .int], (some .char)⟩) rfl) rfl rfl (hb hby at_81) (by rw [hml]; rfl) (W := 2) (Nat.le_of_eq rfl) (by decide) (by decide) (by decide) (by decide) (pc' := 84) rfl fun u86 N87 T h88 w K89 P90 => ?_
  obtain ⟨rfl, P91⟩ := P90
  obtain ⟨q92, rfl, rfl, lq92⟩ := P91
  show Run p e below _ T (mkF m 84 #[.val (.int p0), .val (.int p1), .val (.int p2), .val (.int p3), .val (.int p4), .val (.int p5), .val (.int v1), .val (.ref x3), .unset, .unset, .unset, .unset] [.int q92, .int 7, .ref x3])
  refine w_stC w V84 (i := 7) (by decide) rfl (by decide) (Nat.le_of_ble_eq_true rfl) lq92.nar (hb hby at_84) (Or.inr r7) (pc' := 85) rfl fun T h93 w W94 V95 => ?_
  have E96 := Ext.wr' E85 W94 q6
  refine s_iload w (hb hby at_85) rfl (pc' := 87) rfl ?_
  refine s_iconst w (hb hby at_87) (v := 3) rfl (pc' := 88) rfl ?_
  suffices H : ∀ T g (us : List Int32) (n0 : Int32) (sl9 sl10 : Slot), Wk p l e _ s m _ below meth c Z consts_1 _ h [] T g 1 8 [x3] → Arv Z g x3 k4 .char 8 (us.map Value.int) (.int 0) → us.length = 8 → (∀ c ∈ us, Lat c) → (sl9 = .unset ∨ ∃ z, sl9 = .val (.int z)) → (sl10 = .unset ∨ ∃ z, sl10 = .val (.int z)) → Run p e below (Qm Z consts_1 s h [] _ _) T (mkF m 307 #[.val (.int p0), .val (.int p1), .val (.int p2), .val (.int p3), .val (.int p4), .val (.int p5), .val (.int v1), .val (.ref x3), .val (.int n0), sl9, sl10, .unset] []) by
    refine s_icmp_ne w (hb hby at_88) (by decide) (pc1 := 91) rfl (pc2 := 101) rfl (fun ct97 => ?_) (fun ct97 => ?_)
    · -- v1 = 3
      refine s_iload w (hb hby at_91) rfl (pc' := 93) rfl ?_
      refine s_bipush w (hb hby at_93) (v := 7) rfl (pc' := 95) rfl ?_
      refine s_iand w (hb hby at_95) (pc' := 96) rfl ?_
      generalize hv98 : ((p5 &&& 7) : Int32) = v98
      refine s_istore w #[.val (.int p0), .val (.int p1), .val (.int p2), .val (.int p3), .val (.int p4), .val (.int p5), .val (.int v1), .val (.ref x3), .val (.int v98), .unset, .unset, .unset] (hb hby at_96) rfl (pc' := 98) rfl ?_
      refine s_goto w (hb hby at_98) (by decide) (pc' := 307) rfl ?_
      exact H _ _ [q15, q26, q37, q48, q59, q70, q81, q92] v98 _ _ w (show Arv Z h93 x3 k4 .char 8 (([q15, q26, q37, q48, q59, q70, q81, q92] : List Int32).map Value.int) (.int 0) from V95) rfl (by intro c q; simp only [List.mem_cons, List.not_mem_nil, or_false] at q; rcases q with rfl | rfl | rfl | rfl | rfl | rfl | rfl | rfl <;> first | exact lq15 | exact lq26 | exact lq37 | exact lq48 | exact lq59 | exact lq70 | exact lq81 | exact lq92) (Or.inl rfl) (Or.inl rfl)
    · -- ¬ (v1 = 3)
      refine s_iload w (hb hby at_101) rfl (pc' := 103) rfl ?_
      refine s_if_ne w (hb hby at_103) (by decide) (pc1 := 106) rfl (pc2 := 149) rfl (fun ct99 => ?_) (fun ct99 => ?_)
      · -- v1 = 0
        refine s_aload w (hb hby at_106) rfl rfl (pc' := 108) rfl ?_
        refine s_iconst w (hb hby at_108) (v := 0) rfl (pc' := 109) rfl ?_
        refine s_bipush w (hb hby at_109) (v := 100) rfl (pc' := 111) rfl ?_
        refine w_stC w V95 (i := 0) (by decide) rfl (by decide) (Nat.le_of_ble_eq_true rfl) (show nar .char (100 : Int32) = 100 by decide) (hb hby at_111) (Or.inr r7) (pc' := 112) rfl fun T h100 w W101 V102 => ?_
        have E103 := Ext.wr' E96 W101 q6
        refine s_aload w (hb hby at_112) rfl rfl (pc' := 114) rfl ?_
        refine s_iconst w (hb hby at_114) (v := 1) rfl (pc' := 115) rfl ?_
        refine s_bipush w (hb hby at_115) (v := 105) rfl (pc' := 117) rfl ?_
        refine w_stC w V102 (i := 1) (by decide) rfl (by decide) (Nat.le_of_ble_eq_true rfl) (show nar .char (105 : Int32) = 105 by decide) (hb hby at_117) (Or.inr r7) (pc' := 118) rfl fun T h104 w W105 V106 => ?_
        have E107 := Ext.wr' E103 W105 q6
        refine s_aload w (hb hby at_118) rfl rfl (pc' := 120) rfl ?_
        refine s_iconst w (hb hby at_120) (v := 2) rfl (pc' := 121) rfl ?_
        refine s_bipush w (hb hby at_121) (v := 114) rfl (pc' := 123) rfl ?_
        refine w_stC w V106 (i := 2) (by decide) rfl (by decide) (Nat.le_of_ble_eq_true rfl) (show nar .char (114 : Int32) = 114 by decide) (hb hby at_123) (Or.inr r7) (pc' := 124) rfl fun T h108 w W109 V110 => ?_
        have E111 := Ext.wr' E107 W109 q6
        refine s_aload w (hb hby at_124) rfl rfl (pc' := 126) rfl ?_
        refine s_iconst w (hb hby at_126) (v := 3) rfl (pc' := 127) rfl ?_
        refine s_bipush w (hb hby at_127) (v := 101) rfl (pc' := 129) rfl ?_
        refine w_stC w V110 (i := 3) (by decide) rfl (by decide) (Nat.le_of_ble_eq_true rfl) (show nar .char (101 : Int32) = 101 by decide) (hb hby at_129) (Or.inr r7) (pc' := 130) rfl fun T h112 w W113 V114 => ?_
        have E115 := Ext.wr' E111 W113 q6
        refine s_aload w (hb hby at_130) rfl rfl (pc' := 132) rfl ?_
        refine s_iconst w (hb hby at_132) (v := 4) rfl (pc' := 133) rfl ?_
        refine s_bipush w (hb hby at_133) (v := 99) rfl (pc' := 135) rfl ?_
        refine w_stC w V114 (i := 4) (by decide) rfl (by decide) (Nat.le_of_ble_eq_true rfl) (show nar .char (99 : Int32) = 99 by decide) (hb hby at_135) (Or.inr r7) (pc' := 136) rfl fun T h116 w W117 V118 => ?_
        have E119 := Ext.wr' E115 W117 q6
        refine s_aload w (hb hby at_136) rfl rfl (pc' := 138) rfl ?_
        refine s_iconst w (hb hby at_138) (v := 5) rfl (pc' := 139) rfl ?_
        refine s_bipush w (hb hby at_139) (v := 116) rfl (pc' := 141) rfl ?_
        refine w_stC w V118 (i := 5) (by decide) rfl (by decide) (Nat.le_of_ble_eq_true rfl) (show nar .char (116 : Int32) = 116 by decide) (hb hby at_141) (Or.inr r7) (pc' := 142) rfl fun T h120 w W121 V122 => ?_
        have E123 := Ext.wr' E119 W121 q6
        refine s_bipush w (hb hby at_142) (v := 6) rfl (pc' := 144) rfl ?_
        refine s_istore w #[.val (.int p0), .val (.int p1), .val (.int p2), .val (.int p3), .val (.int p4), .val (.int p5), .val (.int v1), .val (.ref x3), .unset, .val (.int 6), .unset, .unset] (hb hby at_144) rfl (pc' := 146) rfl ?_
        refine s_goto w (hb hby at_146) (by decide) (pc' := 238) rfl ?_
        refine s_iload w (hb hby at_238) rfl (pc' := 240) rfl ?_
        refine s_iconst w (hb hby at_240) (v := 3) rfl (pc' := 241) rfl ?_
        refine s_iand w (hb hby at_241) (pc' := 242) rfl ?_
        generalize hv124 : ((p5 &&& 3) : Int32) = v124
        refine s_istore w #[.val (.int p0), .val (.int p1), .val (.int p2), .val (.int p3), .val (.int p4), .val (.int p5), .val (.int v1), .val (.ref x3), .unset, .val (.int 6), .val (.int v124), .unset] (hb hby at_242) rfl (pc' := 244) rfl ?_
        refine s_iload w (hb hby at_244) rfl (pc' := 246) rfl ?_
        refine s_if_ne w (hb hby at_246) (by decide) (pc1 := 249) rfl (pc2 := 256) rfl (fun ct125 => ?_) (fun ct125 => ?_)
        · -- v124 = 0
          refine s_iload w (hb hby at_249) rfl (pc' := 251) rfl ?_
          refine s_istore w #[.val (.int p0), .val (.int p1), .val (.int p2), .val (.int p3), .val (.int p4), .val (.int p5), .val (.int v1), .val (.ref x3), .val (.int 6), .val (.int 6), .val (.int v124), .unset] (hb hby at_251) rfl (pc' := 253) rfl ?_
          refine s_goto w (hb hby at_253) (by decide) (pc' := 307) rfl ?_
          exact H _ _ [100, 105, 114, 101, 99, 116, q81, q92] 6 _ _ w (show Arv Z h120 x3 k4 .char 8 (([100, 105, 114, 101, 99, 116, q81, q92] : List Int32).map Value.int) (.int 0) from V122) rfl (by intro c q; simp only [List.mem_cons, List.not_mem_nil, or_false] at q; rcases q with rfl | rfl | rfl | rfl | rfl | rfl | rfl | rfl <;> first | exact (show Lat 100 by unfold Lat; decide) | exact (show Lat 105 by unfold Lat; decide) | exact (show Lat 114 by unfold Lat; decide) | exact (show Lat 101 by unfold Lat; decide) | exact (show Lat 99 by unfold Lat; decide) | exact (show Lat 116 by unfold Lat; decide) | exact lq81 | exact lq92) (Or.inr ⟨_, rfl⟩) (Or.inr ⟨_, rfl⟩)
        · -- ¬ (v124 = 0)
          refine s_iload w (hb hby at_256) rfl (pc' := 258) rfl ?_
          refine s_iconst w (hb hby at_258) (v := 1) rfl (pc' := 259) rfl ?_
          refine s_icmp_ne w (hb hby at_259) (by decide) (pc1 := 262) rfl (pc2 := 271) rfl (fun ct126 => ?_) (fun ct126 => ?_)
          · -- v124 = 1
            refine s_iload w (hb hby at_262) rfl (pc' := 264) rfl ?_
            refine s_iconst w (hb hby at_264) (v := 1) rfl (pc' := 265) rfl ?_
            refine s_isub w (hb hby at_265) (pc' := 266) rfl ?_
            generalize hv127 : ((6 - 1) : Int32) = v127
            refine s_istore w #[.val (.int p0), .val (.int p1), .val (.int p2), .val (.int p3), .val (.int p4), .val (.int p5), .val (.int v1), .val (.ref x3), .val (.int v127), .val (.int 6), .val (.int v124), .unset] (hb hby at_266) rfl (pc' := 268) rfl ?_
            refine s_goto w (hb hby at_268) (by decide) (pc' := 307) rfl ?_
            exact H _ _ [100, 105, 114, 101, 99, 116, q81, q92] v127 _ _ w (show Arv Z h120 x3 k4 .char 8 (([100, 105, 114, 101, 99, 116, q81, q92] : List Int32).map Value.int) (.int 0) from V122) rfl (by intro c q; simp only [List.mem_cons, List.not_mem_nil, or_false] at q; rcases q with rfl | rfl | rfl | rfl | rfl | rfl | rfl | rfl <;> first | exact (show Lat 100 by unfold Lat; decide) | exact (show Lat 105 by unfold Lat; decide) | exact (show Lat 114 by unfold Lat; decide) | exact (show Lat 101 by unfold Lat; decide) | exact (show Lat 99 by unfold Lat; decide) | exact (show Lat 116 by unfold Lat; decide) | exact lq81 | exact lq92) (Or.inr ⟨_, rfl⟩) (Or.inr ⟨_, rfl⟩)
          · -- ¬ (v124 = 1)
            refine s_iload w (hb hby at_271) rfl (pc' := 273) rfl ?_
            refine s_iconst w (hb hby at_273) (v := 2) rfl (pc' := 274) rfl ?_
            refine s_icmp_ne w (hb hby at_274) (by decide) (pc1 := 277) rfl (pc2 := 286) rfl (fun ct128 => ?_) (fun ct128 => ?_)
            · -- v124 = 2
              refine s_iload w (hb hby at_277) rfl (pc' := 279) rfl ?_
              refine s_iconst w (hb hby at_279) (v := 1) rfl (pc' := 280) rfl ?_
              refine s_iadd w (hb hby at_280) (pc' := 281) rfl ?_
              generalize hv129 : ((6 + 1) : Int32) = v129
              refine s_istore w #[.val (.int p0), .val (.int p1), .val (.int p2), .val (.int p3), .val (.int p4), .val (.int p5), .val (.int v1), .val (.ref x3), .val (.int v129), .val (.int 6), .val (.int v124), .unset] (hb hby at_281) rfl (pc' := 283) rfl ?_
              refine s_goto w (hb hby at_283) (by decide) (pc' := 307) rfl ?_
              exact H _ _ [100, 105, 114, 101, 99, 116, q81, q92] v129 _ _ w (show Arv Z h120 x3 k4 .char 8 (([100, 105, 114, 101, 99, 116, q81, q92] : List Int32).map Value.int) (.int 0) from V122) rfl (by intro c q; simp only [List.mem_cons, List.not_mem_nil, or_false] at q; rcases q with rfl | rfl | rfl | rfl | rfl | rfl | rfl | rfl <;> first | exact (show Lat 100 by unfold Lat; decide) | exact (show Lat 105 by unfold Lat; decide) | exact (show Lat 114 by unfold Lat; decide) | exact (show Lat 101 by unfold Lat; decide) | exact (show Lat 99 by unfold Lat; decide) | exact (show Lat 116 by unfold Lat; decide) | exact lq81 | exact lq92) (Or.inr ⟨_, rfl⟩) (Or.inr ⟨_, rfl⟩)
            · -- ¬ (v124 = 2)
              refine s_iload w (hb hby at_286) rfl (pc' := 288) rfl ?_
              refine s_istore w #[.val (.int p0), .val (.int p1), .val (.int p2), .val (.int p3), .val (.int p4), .val (.int p5), .val (.int v1), .val (.ref x3), .val (.int 6), .val (.int 6), .val (.int v124), .unset] (hb hby at_288) rfl (pc' := 290) rfl ?_
              refine s_aload w (hb hby at_290) rfl rfl (pc' := 292) rfl ?_
              refine s_iload_n w (hb hby at_292) rfl (pc' := 293) rfl ?_
              refine w_ldcI w (v := 2147483647) (hw _ (List.mem_of_getElem? (i := 5) rfl)) (hb hby at_293) (pc' := 295) rfl ?_
              refine s_iand w (hb hby at_295) (pc' := 296) rfl ?_
              refine s_iload w (hb hby at_296) rfl (pc' := 298) rfl ?_
              refine s_irem w (hb hby at_298) (by decide) (pc' := 299) rfl ?_
              refine s_iload w (hb hby at_299) rfl (pc' := 301) rfl ?_
              refine s_sipush w (hb hby at_301) (v := 255) rfl (pc' := 304) rfl ?_
              refine s_iand w (hb hby at_304) (pc' := 305) rfl ?_
              refine s_i2c w (hb hby at_305) (pc' := 306) rfl ?_
              have A1 : Arv Z h120 x3 k4 .char 8 (([100, 105, 114, 101, 99, 116, q81, q92] : List Int32).map Value.int) (.int 0) := V122
              have lt1 : ∀ c ∈ ([100, 105, 114, 101, 99, 116, q81, q92] : List Int32), Lat c := (by intro c q; simp only [List.mem_cons, List.not_mem_nil, or_false] at q; rcases q with rfl | rfl | rfl | rfl | rfl | rfl | rfl | rfl <;> first | exact (show Lat 100 by unfold Lat; decide) | exact (show Lat 105 by unfold Lat; decide) | exact (show Lat 114 by unfold Lat; decide) | exact (show Lat 101 by unfold Lat; decide) | exact (show Lat 99 by unfold Lat; decide) | exact (show Lat 116 by unfold Lat; decide) | exact lq81 | exact lq92)
              have rm := remB p1 6 (by decide)
              refine w_stC w A1 (i := ((p1 &&& 2147483647) % 6).toNatClampNeg) rm.1 rfl rm.2 rm.2 (lat_mask _).nar (hb hby at_306) (Or.inr r7) (pc' := 307) rfl fun T g1 w W9 V9 => ?_
              rw [← List.map_set] at V9
              exact H _ _ (List.set [100, 105, 114, 101, 99, 116, q81, q92] ((p1 &&& 2147483647) % 6).toNatClampNeg (nar .char (p4 &&& 255))) 6 _ _ w V9 (by simp) (fun c q => (List.mem_or_eq_of_mem_set q).elim (lt1 c) (fun z => by rw [z]; exact lat_mask _)) (Or.inr ⟨_, rfl⟩) (Or.inr ⟨_, rfl⟩)
      · -- ¬ (v1 = 0)
        refine s_iload w (hb hby at_149) rfl (pc' := 151) rfl ?_
        refine s_iconst w (hb hby at_151) (v := 1) rfl (pc' := 152) rfl ?_
        refine s_icmp_ne w (hb hby at_152) (by decide) (pc1 := 155) rfl (pc2 := 205) rfl (fun ct130 => ?_) (fun ct130 => ?_)
        · -- v1 = 1
          refine s_aload w (hb hby at_155) rfl rfl (pc' := 157) rfl ?_
          refine s_iconst w (hb hby at_157) (v := 0) rfl (pc' := 158) rfl ?_
          refine s_bipush w (hb hby at_158) (v := 103) rfl (pc' := 160) rfl ?_
          refine w_stC w V95 (i := 0) (by decide) rfl (by decide) (Nat.le_of_ble_eq_true rfl) (show nar .char (103 : Int32) = 103 by decide) (hb hby at_160) (Or.inr r7) (pc' := 161) rfl fun T h131 w W132 V133 => ?_
          have E134 := Ext.wr' E96 W132 q6
          refine s_aload w (hb hby at_161) rfl rfl (pc' := 163) rfl ?_
          refine s_iconst w (hb hby at_163) (v := 1) rfl (pc' := 164) rfl ?_
          refine s_bipush w (hb hby at_164) (v := 97) rfl (pc' := 166) rfl ?_
          refine w_stC w V133 (i := 1) (by decide) rfl (by decide) (Nat.le_of_ble_eq_true rfl) (show nar .char (97 : Int32) = 97 by decide) (hb hby at_166) (Or.inr r7) (pc' := 167) rfl fun T h135 w W136 V137 => ?_
          have E138 := Ext.wr' E134 W136 q6
          refine s_aload w (hb hby at_167) rfl rfl (pc' := 169) rfl ?_
          refine s_iconst w (hb hby at_169) (v := 2) rfl (pc' := 170) rfl ?_
          refine s_bipush w (hb hby at_170) (v := 116) rfl (pc' := 172) rfl ?_
          refine w_stC w V137 (i := 2) (by decide) rfl (by decide) (Nat.le_of_ble_eq_true rfl) (show nar .char (116 : Int32) = 116 by decide) (hb hby at_172) (Or.inr r7) (pc' := 173) rfl fun T h139 w W140 V141 => ?_
          have E142 := Ext.wr' E138 W140 q6
          refine s_aload w (hb hby at_173) rfl rfl (pc' := 175) rfl ?_
          refine s_iconst w (hb hby at_175) (v := 3) rfl (pc' := 176) rfl ?_
          refine s_bipush w (hb hby at_176) (v := 101) rfl (pc' := 178) rfl ?_
          refine w_stC w V141 (i := 3) (by decide) rfl (by decide) (Nat.le_of_ble_eq_true rfl) (show nar .char (101 : Int32) = 101 by decide) (hb hby at_178) (Or.inr r7) (pc' := 179) rfl fun T h143 w W144 V145 => ?_
          have E146 := Ext.wr' E142 W144 q6
          refine s_aload w (hb hby at_179) rfl rfl (pc' := 181) rfl ?_
          refine s_iconst w (hb hby at_181) (v := 4) rfl (pc' := 182) rfl ?_
          refine s_bipush w (hb hby at_182) (v := 119) rfl (pc' := 184) rfl ?_
          refine w_stC w V145 (i := 4) (by decide) rfl (by decide) (Nat.le_of_ble_eq_true rfl) (show nar .char (119 : Int32) = 119 by decide) (hb hby at_184) (Or.inr r7) (pc' := 185) rfl fun T h147 w W148 V149 => ?_
          have E150 := Ext.wr' E146 W148 q6
          refine s_aload w (hb hby at_185) rfl rfl (pc' := 187) rfl ?_
          refine s_iconst w (hb hby at_187) (v := 5) rfl (pc' := 188) rfl ?_
          refine s_bipush w (hb hby at_188) (v := 97) rfl (pc' := 190) rfl ?_
          refine w_stC w V149 (i := 5) (by decide) rfl (by decide) (Nat.le_of_ble_eq_true rfl) (show nar .char (97 : Int32) = 97 by decide) (hb hby at_190) (Or.inr r7) (pc' := 191) rfl fun T h151 w W152 V153 => ?_
          have E154 := Ext.wr' E150 W152 q6
          refine s_aload w (hb hby at_191) rfl rfl (pc' := 193) rfl ?_
          refine s_bipush w (hb hby at_193) (v := 6) rfl (pc' := 195) rfl ?_
          refine s_bipush w (hb hby at_195) (v := 121) rfl (pc' := 197) rfl ?_
          refine w_stC w V153 (i := 6) (by decide) rfl (by decide) (Nat.le_of_ble_eq_true rfl) (show nar .char (121 : Int32) = 121 by decide) (hb hby at_197) (Or.inr r7) (pc' := 198) rfl fun T h155 w W156 V157 => ?_
          have E158 := Ext.wr' E154 W156 q6
          refine s_bipush w (hb hby at_198) (v := 7) rfl (pc' := 200) rfl ?_
          refine s_istore w #[.val (.int p0), .val (.int p1), .val (.int p2), .val (.int p3), .val (.int p4), .val (.int p5), .val (.int v1), .val (.ref x3), .unset, .val (.int 7), .unset, .unset] (hb hby at_200) rfl (pc' := 202) rfl ?_
          refine s_goto w (hb hby at_202) (by decide) (pc' := 238) rfl ?_
          refine s_iload w (hb hby at_238) rfl (pc' := 240) rfl ?_
          refine s_iconst w (hb hby at_240) (v := 3) rfl (pc' := 241) rfl ?_
          refine s_iand w (hb hby at_241) (pc' := 242) rfl ?_
          generalize hv159 : ((p5 &&& 3) : Int32) = v159
          refine s_istore w #[.val (.int p0), .val (.int p1), .val (.int p2), .val (.int p3), .val (.int p4), .val (.int p5), .val (.int v1), .val (.ref x3), .unset, .val (.int 7), .val (.int v159), .unset] (hb hby at_242) rfl (pc' := 244) rfl ?_
          refine s_iload w (hb hby at_244) rfl (pc' := 246) rfl ?_
          refine s_if_ne w (hb hby at_246) (by decide) (pc1 := 249) rfl (pc2 := 256) rfl (fun ct160 => ?_) (fun ct160 => ?_)
          · -- v159 = 0
            refine s_iload w (hb hby at_249) rfl (pc' := 251) rfl ?_
            refine s_istore w #[.val (.int p0), .val (.int p1), .val (.int p2), .val (.int p3), .val (.int p4), .val (.int p5), .val (.int v1), .val (.ref x3), .val (.int 7), .val (.int 7), .val (.int v159), .unset] (hb hby at_251) rfl (pc' := 253) rfl ?_
            refine s_goto w (hb hby at_253) (by decide) (pc' := 307) rfl ?_
            exact H _ _ [103, 97, 116, 101, 119, 97, 121, q92] 7 _ _ w (show Arv Z h155 x3 k4 .char 8 (([103, 97, 116, 101, 119, 97, 121, q92] : List Int32).map Value.int) (.int 0) from V157) rfl (by intro c q; simp only [List.mem_cons, List.not_mem_nil, or_false] at q; rcases q with rfl | rfl | rfl | rfl | rfl | rfl | rfl | rfl <;> first | exact (show Lat 103 by unfold Lat; decide) | exact (show Lat 97 by unfold Lat; decide) | exact (show Lat 116 by unfold Lat; decide) | exact (show Lat 101 by unfold Lat; decide) | exact (show Lat 119 by unfold Lat; decide) | exact (show Lat 97 by unfold Lat; decide) | exact (show Lat 121 by unfold Lat; decide) | exact lq92) (Or.inr ⟨_, rfl⟩) (Or.inr ⟨_, rfl⟩)
          · -- ¬ (v159 = 0)
            refine s_iload w (hb hby at_256) rfl (pc' := 258) rfl ?_
            refine s_iconst w (hb hby at_258) (v := 1) rfl (pc' := 259) rfl ?_
            refine s_icmp_ne w (hb hby at_259) (by decide) (pc1 := 262) rfl (pc2 := 271) rfl (fun ct161 => ?_) (fun ct161 => ?_)
            · -- v159 = 1
              refine s_iload w (hb hby at_262) rfl (pc' := 264) rfl ?_
              refine s_iconst w (hb hby at_264) (v := 1) rfl (pc' := 265) rfl ?_
              refine s_isub w (hb hby at_265) (pc' := 266) rfl ?_
              generalize hv162 : ((7 - 1) : Int32) = v162
              refine s_istore w #[.val (.int p0), .val (.int p1), .val (.int p2), .val (.int p3), .val (.int p4), .val (.int p5), .val (.int v1), .val (.ref x3), .val (.int v162), .val (.int 7), .val (.int v159), .unset] (hb hby at_266) rfl (pc' := 268) rfl ?_
              refine s_goto w (hb hby at_268) (by decide) (pc' := 307) rfl ?_
              exact H _ _ [103, 97, 116, 101, 119, 97, 121, q92] v162 _ _ w (show Arv Z h155 x3 k4 .char 8 (([103, 97, 116, 101, 119, 97, 121, q92] : List Int32).map Value.int) (.int 0) from V157) rfl (by intro c q; simp only [List.mem_cons, List.not_mem_nil, or_false] at q; rcases q with rfl | rfl | rfl | rfl | rfl | rfl | rfl | rfl <;> first | exact (show Lat 103 by unfold Lat; decide) | exact (show Lat 97 by unfold Lat; decide) | exact (show Lat 116 by unfold Lat; decide) | exact (show Lat 101 by unfold Lat; decide) | exact (show Lat 119 by unfold Lat; decide) | exact (show Lat 97 by unfold Lat; decide) | exact (show Lat 121 by unfold Lat; decide) | exact lq92) (Or.inr ⟨_, rfl⟩) (Or.inr ⟨_, rfl⟩)
            · -- ¬ (v159 = 1)
              refine s_iload w (hb hby at_271) rfl (pc' := 273) rfl ?_
              refine s_iconst w (hb hby at_273) (v := 2) rfl (pc' := 274) rfl ?_
              refine s_icmp_ne w (hb hby at_274) (by decide) (pc1 := 277) rfl (pc2 := 286) rfl (fun ct163 => ?_) (fun ct163 => ?_)
              · -- v159 = 2
                refine s_iload w (hb hby at_277) rfl (pc' := 279) rfl ?_
                refine s_iconst w (hb hby at_279) (v := 1) rfl (pc' := 280) rfl ?_
                refine s_iadd w (hb hby at_280) (pc' := 281) rfl ?_
                generalize hv164 : ((7 + 1) : Int32) = v164
                refine s_istore w #[.val (.int p0), .val (.int p1), .val (.int p2), .val (.int p3), .val (.int p4), .val (.int p5), .val (.int v1), .val (.ref x3), .val (.int v164), .val (.int 7), .val (.int v159), .unset] (hb hby at_281) rfl (pc' := 283) rfl ?_
                refine s_goto w (hb hby at_283) (by decide) (pc' := 307) rfl ?_
                exact H _ _ [103, 97, 116, 101, 119, 97, 121, q92] v164 _ _ w (show Arv Z h155 x3 k4 .char 8 (([103, 97, 116, 101, 119, 97, 121, q92] : List Int32).map Value.int) (.int 0) from V157) rfl (by intro c q; simp only [List.mem_cons, List.not_mem_nil, or_false] at q; rcases q with rfl | rfl | rfl | rfl | rfl | rfl | rfl | rfl <;> first | exact (show Lat 103 by unfold Lat; decide) | exact (show Lat 97 by unfold Lat; decide) | exact (show Lat 116 by unfold Lat; decide) | exact (show Lat 101 by unfold Lat; decide) | exact (show Lat 119 by unfold Lat; decide) | exact (show Lat 97 by unfold Lat; decide) | exact (show Lat 121 by unfold Lat; decide) | exact lq92) (Or.inr ⟨_, rfl⟩) (Or.inr ⟨_, rfl⟩)
              · -- ¬ (v159 = 2)
                refine s_iload w (hb hby at_286) rfl (pc' := 288) rfl ?_
                refine s_istore w #[.val (.int p0), .val (.int p1), .val (.int p2), .val (.int p3), .val (.int p4), .val (.int p5), .val (.int v1), .val (.ref x3), .val (.int 7), .val (.int 7), .val (.int v159), .unset] (hb hby at_288) rfl (pc' := 290) rfl ?_
                refine s_aload w (hb hby at_290) rfl rfl (pc' := 292) rfl ?_
                refine s_iload_n w (hb hby at_292) rfl (pc' := 293) rfl ?_
                refine w_ldcI w (v := 2147483647) (hw _ (List.mem_of_getElem? (i := 5) rfl)) (hb hby at_293) (pc' := 295) rfl ?_
                refine s_iand w (hb hby at_295) (pc' := 296) rfl ?_
                refine s_iload w (hb hby at_296) rfl (pc' := 298) rfl ?_
                refine s_irem w (hb hby at_298) (by decide) (pc' := 299) rfl ?_
                refine s_iload w (hb hby at_299) rfl (pc' := 301) rfl ?_
                refine s_sipush w (hb hby at_301) (v := 255) rfl (pc' := 304) rfl ?_
                refine s_iand w (hb hby at_304) (pc' := 305) rfl ?_
                refine s_i2c w (hb hby at_305) (pc' := 306) rfl ?_
                have A1 : Arv Z h155 x3 k4 .char 8 (([103, 97, 116, 101, 119, 97, 121, q92] : List Int32).map Value.int) (.int 0) := V157
                have lt1 : ∀ c ∈ ([103, 97, 116, 101, 119, 97, 121, q92] : List Int32), Lat c := (by intro c q; simp only [List.mem_cons, List.not_mem_nil, or_false] at q; rcases q with rfl | rfl | rfl | rfl | rfl | rfl | rfl | rfl <;> first | exact (show Lat 103 by unfold Lat; decide) | exact (show Lat 97 by unfold Lat; decide) | exact (show Lat 116 by unfold Lat; decide) | exact (show Lat 101 by unfold Lat; decide) | exact (show Lat 119 by unfold Lat; decide) | exact (show Lat 97 by unfold Lat; decide) | exact (show Lat 121 by unfold Lat; decide) | exact lq92)
                have rm := remB p1 7 (by decide)
                refine w_stC w A1 (i := ((p1 &&& 2147483647) % 7).toNatClampNeg) rm.1 rfl rm.2 rm.2 (lat_mask _).nar (hb hby at_306) (Or.inr r7) (pc' := 307) rfl fun T g1 w W9 V9 => ?_
                rw [← List.map_set] at V9
                exact H _ _ (List.set [103, 97, 116, 101, 119, 97, 121, q92] ((p1 &&& 2147483647) % 7).toNatClampNeg (nar .char (p4 &&& 255))) 7 _ _ w V9 (by simp) (fun c q => (List.mem_or_eq_of_mem_set q).elim (lt1 c) (fun z => by rw [z]; exact lat_mask _)) (Or.inr ⟨_, rfl⟩) (Or.inr ⟨_, rfl⟩)
        · -- ¬ (v1 = 1)
          refine s_aload w (hb hby at_205) rfl rfl (pc' := 207) rfl ?_
          refine s_iconst w (hb hby at_207) (v := 0) rfl (pc' := 208) rfl ?_
          refine s_bipush w (hb hby at_208) (v := 116) rfl (pc' := 210) rfl ?_
          refine w_stC w V95 (i := 0) (by decide) rfl (by decide) (Nat.le_of_ble_eq_true rfl) (show nar .char (116 : Int32) = 116 by decide) (hb hby at_210) (Or.inr r7) (pc' := 211) rfl fun T h165 w W166 V167 => ?_
          have E168 := Ext.wr' E96 W166 q6
          refine s_aload w (hb hby at_211) rfl rfl (pc' := 213) rfl ?_
          refine s_iconst w (hb hby at_213) (v := 1) rfl (pc' := 214) rfl ?_
          refine s_bipush w (hb hby at_214) (v := 114) rfl (pc' := 216) rfl ?_
          refine w_stC w V167 (i := 1) (by decide) rfl (by decide) (Nat.le_of_ble_eq_true rfl) (show nar .char (114 : Int32) = 114 by decide) (hb hby at_216) (Or.inr r7) (pc' := 217) rfl fun T h169 w W170 V171 => ?_
          have E172 := Ext.wr' E168 W170 q6
          refine s_aload w (hb hby at_217) rfl rfl (pc' := 219) rfl ?_
          refine s_iconst w (hb hby at_219) (v := 2) rfl (pc' := 220) rfl ?_
          refine s_bipush w (hb hby at_220) (v := 97) rfl (pc' := 222) rfl ?_
          refine w_stC w V171 (i := 2) (by decide) rfl (by decide) (Nat.le_of_ble_eq_true rfl) (show nar .char (97 : Int32) = 97 by decide) (hb hby at_222) (Or.inr r7) (pc' := 223) rfl fun T h173 w W174 V175 => ?_
          have E176 := Ext.wr' E172 W174 q6
          refine s_aload w (hb hby at_223) rfl rfl (pc' := 225) rfl ?_
          refine s_iconst w (hb hby at_225) (v := 3) rfl (pc' := 226) rfl ?_
          refine s_bipush w (hb hby at_226) (v := 100) rfl (pc' := 228) rfl ?_
          refine w_stC w V175 (i := 3) (by decide) rfl (by decide) (Nat.le_of_ble_eq_true rfl) (show nar .char (100 : Int32) = 100 by decide) (hb hby at_228) (Or.inr r7) (pc' := 229) rfl fun T h177 w W178 V179 => ?_
          have E180 := Ext.wr' E176 W178 q6
          refine s_aload w (hb hby at_229) rfl rfl (pc' := 231) rfl ?_
          refine s_iconst w (hb hby at_231) (v := 4) rfl (pc' := 232) rfl ?_
          refine s_bipush w (hb hby at_232) (v := 101) rfl (pc' := 234) rfl ?_
          refine w_stC w V179 (i := 4) (by decide) rfl (by decide) (Nat.le_of_ble_eq_true rfl) (show nar .char (101 : Int32) = 101 by decide) (hb hby at_234) (Or.inr r7) (pc' := 235) rfl fun T h181 w W182 V183 => ?_
          have E184 := Ext.wr' E180 W182 q6
          refine s_iconst w (hb hby at_235) (v := 5) rfl (pc' := 236) rfl ?_
          refine s_istore w #[.val (.int p0), .val (.int p1), .val (.int p2), .val (.int p3), .val (.int p4), .val (.int p5), .val (.int v1), .val (.ref x3), .unset, .val (.int 5), .unset, .unset] (hb hby at_236) rfl (pc' := 238) rfl ?_
          refine s_iload w (hb hby at_238) rfl (pc' := 240) rfl ?_
          refine s_iconst w (hb hby at_240) (v := 3) rfl (pc' := 241) rfl ?_
          refine s_iand w (hb hby at_241) (pc' := 242) rfl ?_
          generalize hv185 : ((p5 &&& 3) : Int32) = v185
          refine s_istore w #[.val (.int p0), .val (.int p1), .val (.int p2), .val (.int p3), .val (.int p4), .val (.int p5), .val (.int v1), .val (.ref x3), .unset, .val (.int 5), .val (.int v185), .unset] (hb hby at_242) rfl (pc' := 244) rfl ?_
          refine s_iload w (hb hby at_244) rfl (pc' := 246) rfl ?_
          refine s_if_ne w (hb hby at_246) (by decide) (pc1 := 249) rfl (pc2 := 256) rfl (fun ct186 => ?_) (fun ct186 => ?_)
          · -- v185 = 0
            refine s_iload w (hb hby at_249) rfl (pc' := 251) rfl ?_
            refine s_istore w #[.val (.int p0), .val (.int p1), .val (.int p2), .val (.int p3), .val (.int p4), .val (.int p5), .val (.int v1), .val (.ref x3), .val (.int 5), .val (.int 5), .val (.int v185), .unset] (hb hby at_251) rfl (pc' := 253) rfl ?_
            refine s_goto w (hb hby at_253) (by decide) (pc' := 307) rfl ?_
            exact H _ _ [116, 114, 97, 100, 101, q70, q81, q92] 5 _ _ w (show Arv Z h181 x3 k4 .char 8 (([116, 114, 97, 100, 101, q70, q81, q92] : List Int32).map Value.int) (.int 0) from V183) rfl (by intro c q; simp only [List.mem_cons, List.not_mem_nil, or_false] at q; rcases q with rfl | rfl | rfl | rfl | rfl | rfl | rfl | rfl <;> first | exact (show Lat 116 by unfold Lat; decide) | exact (show Lat 114 by unfold Lat; decide) | exact (show Lat 97 by unfold Lat; decide) | exact (show Lat 100 by unfold Lat; decide) | exact (show Lat 101 by unfold Lat; decide) | exact lq70 | exact lq81 | exact lq92) (Or.inr ⟨_, rfl⟩) (Or.inr ⟨_, rfl⟩)
          · -- ¬ (v185 = 0)
            refine s_iload w (hb hby at_256) rfl (pc' := 258) rfl ?_
            refine s_iconst w (hb hby at_258) (v := 1) rfl (pc' := 259) rfl ?_
            refine s_icmp_ne w (hb hby at_259) (by decide) (pc1 := 262) rfl (pc2 := 271) rfl (fun ct187 => ?_) (fun ct187 => ?_)
            · -- v185 = 1
              refine s_iload w (hb hby at_262) rfl (pc' := 264) rfl ?_
              refine s_iconst w (hb hby at_264) (v := 1) rfl (pc' := 265) rfl ?_
              refine s_isub w (hb hby at_265) (pc' := 266) rfl ?_
              generalize hv188 : ((5 - 1) : Int32) = v188
              refine s_istore w #[.val (.int p0), .val (.int p1), .val (.int p2), .val (.int p3), .val (.int p4), .val (.int p5), .val (.int v1), .val (.ref x3), .val (.int v188), .val (.int 5), .val (.int v185), .unset] (hb hby at_266) rfl (pc' := 268) rfl ?_
              refine s_goto w (hb hby at_268) (by decide) (pc' := 307) rfl ?_
              exact H _ _ [116, 114, 97, 100, 101, q70, q81, q92] v188 _ _ w (show Arv Z h181 x3 k4 .char 8 (([116, 114, 97, 100, 101, q70, q81, q92] : List Int32).map Value.int) (.int 0) from V183) rfl (by intro c q; simp only [List.mem_cons, List.not_mem_nil, or_false] at q; rcases q with rfl | rfl | rfl | rfl | rfl | rfl | rfl | rfl <;> first | exact (show Lat 116 by unfold Lat; decide) | exact (show Lat 114 by unfold Lat; decide) | exact (show Lat 97 by unfold Lat; decide) | exact (show Lat 100 by unfold Lat; decide) | exact (show Lat 101 by unfold Lat; decide) | exact lq70 | exact lq81 | exact lq92) (Or.inr ⟨_, rfl⟩) (Or.inr ⟨_, rfl⟩)
            · -- ¬ (v185 = 1)
              refine s_iload w (hb hby at_271) rfl (pc' := 273) rfl ?_
              refine s_iconst w (hb hby at_273) (v := 2) rfl (pc' := 274) rfl ?_
              refine s_icmp_ne w (hb hby at_274) (by decide) (pc1 := 277) rfl (pc2 := 286) rfl (fun ct189 => ?_) (fun ct189 => ?_)
              · -- v185 = 2
                refine s_iload w (hb hby at_277) rfl (pc' := 279) rfl ?_
                refine s_iconst w (hb hby at_279) (v := 1) rfl (pc' := 280) rfl ?_
                refine s_iadd w (hb hby at_280) (pc' := 281) rfl ?_
                generalize hv190 : ((5 + 1) : Int32) = v190
                refine s_istore w #[.val (.int p0), .val (.int p1), .val (.int p2), .val (.int p3), .val (.int p4), .val (.int p5), .val (.int v1), .val (.ref x3), .val (.int v190), .val (.int 5), .val (.int v185), .unset] (hb hby at_281) rfl (pc' := 283) rfl ?_
                refine s_goto w (hb hby at_283) (by decide) (pc' := 307) rfl ?_
                exact H _ _ [116, 114, 97, 100, 101, q70, q81, q92] v190 _ _ w (show Arv Z h181 x3 k4 .char 8 (([116, 114, 97, 100, 101, q70, q81, q92] : List Int32).map Value.int) (.int 0) from V183) rfl (by intro c q; simp only [List.mem_cons, List.not_mem_nil, or_false] at q; rcases q with rfl | rfl | rfl | rfl | rfl | rfl | rfl | rfl <;> first | exact (show Lat 116 by unfold Lat; decide) | exact (show Lat 114 by unfold Lat; decide) | exact (show Lat 97 by unfold Lat; decide) | exact (show Lat 100 by unfold Lat; decide) | exact (show Lat 101 by unfold Lat; decide) | exact lq70 | exact lq81 | exact lq92) (Or.inr ⟨_, rfl⟩) (Or.inr ⟨_, rfl⟩)
              · -- ¬ (v185 = 2)
                refine s_iload w (hb hby at_286) rfl (pc' := 288) rfl ?_
                refine s_istore w #[.val (.int p0), .val (.int p1), .val (.int p2), .val (.int p3), .val (.int p4), .val (.int p5), .val (.int v1), .val (.ref x3), .val (.int 5), .val (.int 5), .val (.int v185), .unset] (hb hby at_288) rfl (pc' := 290) rfl ?_
                refine s_aload w (hb hby at_290) rfl rfl (pc' := 292) rfl ?_
                refine s_iload_n w (hb hby at_292) rfl (pc' := 293) rfl ?_
                refine w_ldcI w (v := 2147483647) (hw _ (List.mem_of_getElem? (i := 5) rfl)) (hb hby at_293) (pc' := 295) rfl ?_
                refine s_iand w (hb hby at_295) (pc' := 296) rfl ?_
                refine s_iload w (hb hby at_296) rfl (pc' := 298) rfl ?_
                refine s_irem w (hb hby at_298) (by decide) (pc' := 299) rfl ?_
                refine s_iload w (hb hby at_299) rfl (pc' := 301) rfl ?_
                refine s_sipush w (hb hby at_301) (v := 255) rfl (pc' := 304) rfl ?_
                refine s_iand w (hb hby at_304) (pc' := 305) rfl ?_
                refine s_i2c w (hb hby at_305) (pc' := 306) rfl ?_
                have A1 : Arv Z h181 x3 k4 .char 8 (([116, 114, 97, 100, 101, q70, q81, q92] : List Int32).map Value.int) (.int 0) := V183
                have lt1 : ∀ c ∈ ([116, 114, 97, 100, 101, q70, q81, q92] : List Int32), Lat c := (by intro c q; simp only [List.mem_cons, List.not_mem_nil, or_false] at q; rcases q with rfl | rfl | rfl | rfl | rfl | rfl | rfl | rfl <;> first | exact (show Lat 116 by unfold Lat; decide) | exact (show Lat 114 by unfold Lat; decide) | exact (show Lat 97 by unfold Lat; decide) | exact (show Lat 100 by unfold Lat; decide) | exact (show Lat 101 by unfold Lat; decide) | exact lq70 | exact lq81 | exact lq92)
                have rm := remB p1 5 (by decide)
                refine w_stC w A1 (i := ((p1 &&& 2147483647) % 5).toNatClampNeg) rm.1 rfl rm.2 rm.2 (lat_mask _).nar (hb hby at_306) (Or.inr r7) (pc' := 307) rfl fun T g1 w W9 V9 => ?_
                rw [← List.map_set] at V9
                exact H _ _ (List.set [116, 114, 97, 100, 101, q70, q81, q92] ((p1 &&& 2147483647) % 5).toNatClampNeg (nar .char (p4 &&& 255))) 5 _ _ w V9 (by simp) (fun c q => (List.mem_or_eq_of_mem_set q).elim (lt1 c) (fun z => by rw [z]; exact lat_mask _)) (Or.inr ⟨_, rfl⟩) (Or.inr ⟨_, rfl⟩)
  intro T g us n0 sl9 sl10 w A h8 hus hsl9 hsl10
  have hZ0 := w.old
  refine s_aload w (hb hby at_307) rfl rfl (pc' := 309) rfl ?_
  refine s_iload w (hb hby at_309) rfl (pc' := 311) rfl ?_
  refine w_staticN w hEL (y := (⟨"com/example/tuikuan/tuikuan/ChannelNamedPinLaw", "mk", "([CI)Ljava/lang/String;"⟩ : MethodName)) (hw _ (List.mem_of_getElem? (i := 6) rfl)) (hw _ (List.mem_of_getElem? (i := 7) rfl)) (hw _ (List.mem_of_getElem? (i := 3) rfl)) (hw _ (List.mem_of_getElem? (i := 8) rfl)) (by decide) (rm_mk G0 g x3 n0 k4 us A h8 hus) all0 all0 (argsL := [.ref x3, .int n0]) (rest := []) (lenOf (by decide +kernel : parseMethodDescriptor "([CI)Ljava/lang/String;" = some ⟨[(.array .char), .int], (some (.object "java/lang/String"))⟩) rfl) rfl rfl (hb hby at_311) (by rw [hml]; rfl) (W := 0) (Nat.le_of_eq rfl) (by decide) (by decide) (by decide) (by decide) (pc' := 314) rfl fun u191 N192 T h193 w K194 P195 => ?_
  obtain ⟨rfl, P196⟩ := P195
  obtain ⟨y, cs, rfl, Sy⟩ := P196
  have E197 := Keep.ext0 K194
  show Run p e below _ T (mkF m 314 #[.val (.int p0), .val (.int p1), .val (.int p2), .val (.int p3), .val (.int p4), .val (.int p5), .val (.int v1), .val (.ref x3), .val (.int n0), sl9, sl10, .unset] [.ref y])
  refine s_astore w #[.val (.int p0), .val (.int p1), .val (.int p2), .val (.int p3), .val (.int p4), .val (.int p5), .val (.int v1), .val (.ref x3), .val (.int n0), .val (.ref y), sl10, .unset] (hb hby at_314) rfl (by rcases hsl9 with rfl | ⟨z, rfl⟩ <;> rfl) (pc' := 316) rfl ?_
  refine s_aload w (hb hby at_316) rfl rfl (pc' := 318) rfl ?_
  refine w_staticN w hEL (y := (⟨"com/example/tuikuan/tuikuan/Channel", "named", "(Ljava/lang/String;)Ljava/util/Optional;"⟩ : MethodName)) (hw _ (List.mem_of_getElem? (i := 38) rfl)) (hw _ (List.mem_of_getElem? (i := 39) rfl)) (hw _ (List.mem_of_getElem? (i := 40) rfl)) (hw _ (List.mem_of_getElem? (i := 41) rfl)) (by decide) (rm_nam G0 h193 y cs Sy) all0 all0 (argsL := [.ref y]) (rest := []) (lenOf (by decide +kernel : parseMethodDescriptor "(Ljava/lang/String;)Ljava/util/Optional;" = some ⟨[(.object "java/lang/String")], (some (.object "java/util/Optional"))⟩) rfl) rfl rfl (hb hby at_318) (by rw [hml]; rfl) (W := 0) (Nat.le_of_eq rfl) (by decide) (by decide) (by decide) (by decide) (pc' := 321) rfl fun u198 N199 T h200 w K201 P202 => ?_
  obtain ⟨rfl, P203⟩ := P202
  obtain ⟨o, v0, rfl, Eo, Fo, hv0⟩ := P203
  have E204 := Keep.ext0 K201
  show Run p e below _ T (mkF m 321 #[.val (.int p0), .val (.int p1), .val (.int p2), .val (.int p3), .val (.int p4), .val (.int p5), .val (.int v1), .val (.ref x3), .val (.int n0), .val (.ref y), sl10, .unset] [.ref o])
  refine s_astore w #[.val (.int p0), .val (.int p1), .val (.int p2), .val (.int p3), .val (.int p4), .val (.int p5), .val (.int v1), .val (.ref x3), .val (.int n0), .val (.ref y), .val (.ref o), .unset] (hb hby at_321) rfl (by rcases hsl10 with rfl | ⟨z, rfl⟩ <;> rfl) (pc' := 323) rfl ?_
  refine s_anull w (hb hby at_323) (pc' := 324) rfl ?_
  refine s_astore w #[.val (.int p0), .val (.int p1), .val (.int p2), .val (.int p3), .val (.int p4), .val (.int p5), .val (.int v1), .val (.ref x3), .val (.int n0), .val (.ref y), .val (.ref o), .val (.null)] (hb hby at_324) rfl rfl (pc' := 326) rfl ?_
  refine s_aload w (hb hby at_326) rfl rfl (pc' := 328) rfl ?_
  refine w_ldcS w hEL (text := "direct") (hw _ (List.mem_of_getElem? (i := 77) rfl)) hwA (by decide) (vs := [.int 100, .int 105, .int 114, .int 101, .int 99, .int 116]) (z := 6) (n := 24) ⟨by decide, by decide⟩ (by decide) rfl (by decide) (by decide) (hb hby at_328) (pc' := 330) rfl (by decide) (by decide) fun T h205 x206 t207 kb208 w E209 A210 C211 V212 K213 N214 => ?_
  have F215 : Str Z h205 x206 [100, 105, 114, 101, 99, 116] := Str.low A210 V212 C211 rfl rfl K213 (by decide) (by decide)
  refine w_strEq w hwE (hw _ (List.mem_of_getElem? (i := 10) rfl)) (hw _ (List.mem_of_getElem? (i := 80) rfl)) (hw _ (List.mem_of_getElem? (i := 68) rfl)) (hw _ (List.mem_of_getElem? (i := 70) rfl)) (hw _ (List.mem_of_getElem? (i := 69) rfl)) ((Sy.ext E204).ext E209) F215 SC hz (hb hby at_330) (by rw [hml]; rfl) (W := 0) (Nat.le_of_eq rfl) (by decide) (by decide) (by decide) (by decide) (pc' := 333) rfl fun T z216 w hz217 => ?_
  refine s_if_eq w (hb hby at_333) (by decide) (pc1 := 336) rfl (pc2 := 344) rfl (fun ct218 => ?_) (fun ct218 => ?_)
  · have en0 := hz217.elim (fun q => q.2) (fun q => absurd q.1 ct218)
    refine w_getS w (hw _ (List.mem_of_getElem? (i := 105) rfl)) Via.refl (sD.ext w.old) (hb hby at_336) (pc' := 339) rfl fun T w => ?_
    refine s_astore w #[.val (.int p0), .val (.int p1), .val (.int p2), .val (.int p3), .val (.int p4), .val (.int p5), .val (.int v1), .val (.ref x3), .val (.int n0), .val (.ref y), .val (.ref o), .val (.ref aD)] (hb hby at_339) rfl rfl (pc' := 341) rfl ?_
    refine s_goto w (hb hby at_341) (by decide) (pc' := 377) rfl ?_
    have ev : v0 = .ref aD := by rw [hv0, if_pos en0.symm]
    subst ev
    refine s_aload w (hb hby at_377) rfl rfl (pc' := 379) rfl ?_
    refine s_ifnonnull_yes w (hb hby at_379) (by decide) (pc' := 396) rfl ?_
    refine s_aload w (hb hby at_396) rfl rfl (pc' := 398) rfl ?_
    refine w_virtualN w hEL (y := (⟨"java/util/Optional", "isPresent", "()Z"⟩ : MethodName)) (y' := (⟨"java/util/Optional", "isPresent", "()Z"⟩ : MethodName)) (C := "java/util/Optional") (a := o) (hw _ (List.mem_of_getElem? (i := 83) rfl)) (hw _ (List.mem_of_getElem? (i := 84) rfl)) (hw _ (List.mem_of_getElem? (i := 86) rfl)) (hw _ (List.mem_of_getElem? (i := 86) rfl)) (hw _ (List.mem_of_getElem? (i := 85) rfl)) (hw _ (List.mem_of_getElem? (i := 44) rfl)) (hw _ (List.mem_of_getElem? (i := 87) rfl)) (by decide) (Eo.ext E209) (rm_ip1 G0 h205 o aD (Fo.ext E209)) all0 all0 (argsL := []) (rest := []) (lenOf (by decide +kernel : parseMethodDescriptor "()Z" = some ⟨[], (some .boolean)⟩) rfl) rfl rfl (hb hby at_398) (by rw [hml]; rfl) (W := 0) (Nat.le_of_eq rfl) (by decide) (by decide) (by decide) (by decide) (pc' := 401) rfl fun u219 N220 T h221 w K222 P223 => ?_
    obtain ⟨rfl, P224⟩ := P223
    obtain ⟨rfl, rfl⟩ := P224
    show Run p e below _ T (mkF m 401 #[.val (.int p0), .val (.int p1), .val (.int p2), .val (.int p3), .val (.int p4), .val (.int p5), .val (.int v1), .val (.ref x3), .val (.int n0), .val (.ref y), .val (.ref o), .val (.ref aD)] [.int 1])
    refine s_if_eq w (hb hby at_401) (by decide) (pc1 := 404) rfl (pc2 := 431) rfl (fun _ => ?_) (fun q => absurd q (by decide))
    refine s_aload w (hb hby at_404) rfl rfl (pc' := 406) rfl ?_
    refine w_virtualN w hEL (y := (⟨"java/util/Optional", "get", "()Ljava/lang/Object;"⟩ : MethodName)) (y' := (⟨"java/util/Optional", "get", "()Ljava/lang/Object;"⟩ : MethodName)) (C := "java/util/Optional") (a := o) (hw _ (List.mem_of_getElem? (i := 106) rfl)) (hw _ (List.mem_of_getElem? (i := 107) rfl)) (hw _ (List.mem_of_getElem? (i := 109) rfl)) (hw _ (List.mem_of_getElem? (i := 109) rfl)) (hw _ (List.mem_of_getElem? (i := 108) rfl)) (hw _ (List.mem_of_getElem? (i := 44) rfl)) (hw _ (List.mem_of_getElem? (i := 110) rfl)) (by decide) (Eo.ext E209) (rm_get G0 h205 o aD (Fo.ext E209)) all0 all0 (argsL := []) (rest := []) (lenOf (by decide +kernel : parseMethodDescriptor "()Ljava/lang/Object;" = some ⟨[], (some (.object "java/lang/Object"))⟩) rfl) rfl rfl (hb hby at_406) (by rw [hml]; rfl) (W := 0) (Nat.le_of_eq rfl) (by decide) (by decide) (by decide) (by decide) (pc' := 409) rfl fun u226 N227 T h228 w K229 P230 => ?_
    obtain ⟨rfl, P231⟩ := P230
    obtain ⟨rfl, rfl⟩ := P231
    show Run p e below _ T (mkF m 409 #[.val (.int p0), .val (.int p1), .val (.int p2), .val (.int p3), .val (.int p4), .val (.int p5), .val (.int v1), .val (.ref x3), .val (.int n0), .val (.ref y), .val (.ref o), .val (.ref aD)] [.ref aD])
    refine s_aload w (hb hby at_409) rfl rfl (pc' := 411) rfl ?_
    refine s_acmp_ne w (hb hby at_411) rfl rfl (by decide) (pc1 := 414) rfl (pc2 := 431) rfl (fun ct232 => ?_) (fun ct232 => ?_)
    · -- .ref aD = .ref aD
      refine s_aload w (hb hby at_414) rfl rfl (pc' := 416) rfl ?_
      refine w_virtualN w hEL (y := (⟨"com/example/tuikuan/tuikuan/Channel", "fieldValue", "()Ljava/lang/String;"⟩ : MethodName)) (y' := (⟨"com/example/tuikuan/tuikuan/Channel", "fieldValue", "()Ljava/lang/String;"⟩ : MethodName)) (C := "com/example/tuikuan/tuikuan/Channel") (a := aD) (hw _ (List.mem_of_getElem? (i := 111) rfl)) (hw _ (List.mem_of_getElem? (i := 112) rfl)) (hw _ (List.mem_of_getElem? (i := 114) rfl)) (hw _ (List.mem_of_getElem? (i := 114) rfl)) (hw _ (List.mem_of_getElem? (i := 113) rfl)) (hw _ (List.mem_of_getElem? (i := 40) rfl)) (hw _ (List.mem_of_getElem? (i := 115) rfl)) (by decide) ((((xD.ext hZ0).ext E197).ext E204).ext E209) (rm_fv G0 h205 aD fD ((((lD.ext hZ0).ext E197).ext E204).ext E209)) all0 all0 (argsL := []) (rest := []) (lenOf (by decide +kernel : parseMethodDescriptor "()Ljava/lang/String;" = some ⟨[], (some (.object "java/lang/String"))⟩) rfl) rfl rfl (hb hby at_416) (by rw [hml]; rfl) (W := 0) (Nat.le_of_eq rfl) (by decide) (by decide) (by decide) (by decide) (pc' := 419) rfl fun u233 N234 T h235 w K236 P237 => ?_
      obtain ⟨rfl, P238⟩ := P237
      obtain ⟨rfl, rfl⟩ := P238
      show Run p e below _ T (mkF m 419 #[.val (.int p0), .val (.int p1), .val (.int p2), .val (.int p3), .val (.int p4), .val (.int p5), .val (.int v1), .val (.ref x3), .val (.int n0), .val (.ref y), .val (.ref o), .val (.ref aD)] [.ref fD])
      refine s_aload w (hb hby at_419) rfl rfl (pc' := 421) rfl ?_
      refine w_strEq w hwE (hw _ (List.mem_of_getElem? (i := 10) rfl)) (hw _ (List.mem_of_getElem? (i := 80) rfl)) (hw _ (List.mem_of_getElem? (i := 68) rfl)) (hw _ (List.mem_of_getElem? (i := 70) rfl)) (hw _ (List.mem_of_getElem? (i := 69) rfl)) ((((tD.ext hZ0).ext E197).ext E204).ext E209) ((Sy.ext E204).ext E209) SC hz (hb hby at_421) (by rw [hml]; rfl) (W := 0) (Nat.le_of_eq rfl) (by decide) (by decide) (by decide) (by decide) (pc' := 424) rfl fun T z239 w hz240 => ?_
      refine s_if_eq w (hb hby at_424) (by decide) (pc1 := 427) rfl (pc2 := 431) rfl (fun ct241 => ?_) (fun ct241 => ?_)
      · -- ¬ (z239 = 0)
        refine s_iconst w (hb hby at_427) (v := 1) rfl (pc' := 428) rfl ?_
        refine s_goto w (hb hby at_428) (by decide) (pc' := 432) rfl ?_
        exact w_ireturn w hEL hs hlk hret rfl (Or.inr (Or.inl rfl)) (hb hby at_432) (by decide) (by decide) rfl
      · -- z239 = 0
        refine s_iconst w (hb hby at_431) (v := 0) rfl (pc' := 432) rfl ?_
        exact absurd en0.symm (hz240.elim (fun q => absurd (q.1.symm.trans ct241) (by decide)) (fun q => q.2))
    · -- ¬ (.ref aD = .ref aD)
      refine s_iconst w (hb hby at_431) (v := 0) rfl (pc' := 432) rfl ?_
      exact absurd rfl ct232
  · have en0 := hz217.elim (fun q => absurd (q.1.symm.trans ct218) (by decide)) (fun q => q.2)
    refine s_aload w (hb hby at_344) rfl rfl (pc' := 346) rfl ?_
    refine w_ldcS w hEL (text := "gateway") (hw _ (List.mem_of_getElem? (i := 81) rfl)) hwA (by decide) (vs := [.int 103, .int 97, .int 116, .int 101, .int 119, .int 97, .int 121]) (z := 7) (n := 28) ⟨by decide, by decide⟩ (by decide) rfl (by decide) (by decide) (hb hby at_346) (pc' := 348) rfl (by decide) (by decide) fun T h242 x243 t244 kb245 w E246 A247 C248 V249 K250 N251 => ?_
    have F252 : Str Z h242 x243 [103, 97, 116, 101, 119, 97, 121] := Str.low A247 V249 C248 rfl rfl K250 (by decide) (by decide)
    refine w_strEq w hwE (hw _ (List.mem_of_getElem? (i := 10) rfl)) (hw _ (List.mem_of_getElem? (i := 80) rfl)) (hw _ (List.mem_of_getElem? (i := 68) rfl)) (hw _ (List.mem_of_getElem? (i := 70) rfl)) (hw _ (List.mem_of_getElem? (i := 69) rfl)) (((Sy.ext E204).ext E209).ext E246) F252 SC hz (hb hby at_348) (by rw [hml]; rfl) (W := 0) (Nat.le_of_eq rfl) (by decide) (by decide) (by decide) (by decide) (pc' := 351) rfl fun T z253 w hz254 => ?_
    refine s_if_eq w (hb hby at_351) (by decide) (pc1 := 354) rfl (pc2 := 362) rfl (fun ct255 => ?_) (fun ct255 => ?_)
    · have en1 := hz254.elim (fun q => q.2) (fun q => absurd q.1 ct255)
      refine w_getS w (hw _ (List.mem_of_getElem? (i := 117) rfl)) Via.refl (sG.ext w.old) (hb hby at_354) (pc' := 357) rfl fun T w => ?_
      refine s_astore w #[.val (.int p0), .val (.int p1), .val (.int p2), .val (.int p3), .val (.int p4), .val (.int p5), .val (.int v1), .val (.ref x3), .val (.int n0), .val (.ref y), .val (.ref o), .val (.ref aG)] (hb hby at_357) rfl rfl (pc' := 359) rfl ?_
      refine s_goto w (hb hby at_359) (by decide) (pc' := 377) rfl ?_
      have ev : v0 = .ref aG := by rw [hv0, if_neg fun q => en0 q.symm, if_pos en1.symm]
      subst ev
      refine s_aload w (hb hby at_377) rfl rfl (pc' := 379) rfl ?_
      refine s_ifnonnull_yes w (hb hby at_379) (by decide) (pc' := 396) rfl ?_
      refine s_aload w (hb hby at_396) rfl rfl (pc' := 398) rfl ?_
      refine w_virtualN w hEL (y := (⟨"java/util/Optional", "isPresent", "()Z"⟩ : MethodName)) (y' := (⟨"java/util/Optional", "isPresent", "()Z"⟩ : MethodName)) (C := "java/util/Optional") (a := o) (hw _ (List.mem_of_getElem? (i := 83) rfl)) (hw _ (List.mem_of_getElem? (i := 84) rfl)) (hw _ (List.mem_of_getElem? (i := 86) rfl)) (hw _ (List.mem_of_getElem? (i := 86) rfl)) (hw _ (List.mem_of_getElem? (i := 85) rfl)) (hw _ (List.mem_of_getElem? (i := 44) rfl)) (hw _ (List.mem_of_getElem? (i := 87) rfl)) (by decide) ((Eo.ext E209).ext E246) (rm_ip1 G0 h242 o aG ((Fo.ext E209).ext E246)) all0 all0 (argsL := []) (rest := []) (lenOf (by decide +kernel : parseMethodDescriptor "()Z" = some ⟨[], (some .boolean)⟩) rfl) rfl rfl (hb hby at_398) (by rw [hml]; rfl) (W := 0) (Nat.le_of_eq rfl) (by decide) (by decide) (by decide) (by decide) (pc' := 401) rfl fun u256 N257 T h258 w K259 P260 => ?_
      obtain ⟨rfl, P261⟩ := P260
      obtain ⟨rfl, rfl⟩ := P261
      show Run p e below _ T (mkF m 401 #[.val (.int p0), .val (.int p1), .val (.int p2), .val (.int p3), .val (.int p4), .val (.int p5), .val (.int v1), .val (.ref x3), .val (.int n0), .val (.ref y), .val (.ref o), .val (.ref aG)] [.int 1])
      refine s_if_eq w (hb hby at_401) (by decide) (pc1 := 404) rfl (pc2 := 431) rfl (fun _ => ?_) (fun q => absurd q (by decide))
      refine s_aload w (hb hby at_404) rfl rfl (pc' := 406) rfl ?_
      refine w_virtualN w hEL (y := (⟨"java/util/Optional", "get", "()Ljava/lang/Object;"⟩ : MethodName)) (y' := (⟨"java/util/Optional", "get", "()Ljava/lang/Object;"⟩ : MethodName)) (C := "java/util/Optional") (a := o) (hw _ (List.mem_of_getElem? (i := 106) rfl)) (hw _ (List.mem_of_getElem? (i := 107) rfl)) (hw _ (List.mem_of_getElem? (i := 109) rfl)) (hw _ (List.mem_of_getElem? (i := 109) rfl)) (hw _ (List.mem_of_getElem? (i := 108) rfl)) (hw _ (List.mem_of_getElem? (i := 44) rfl)) (hw _ (List.mem_of_getElem? (i := 110) rfl)) (by decide) ((Eo.ext E209).ext E246) (rm_get G0 h242 o aG ((Fo.ext E209).ext E246)) all0 all0 (argsL := []) (rest := []) (lenOf (by decide +kernel : parseMethodDescriptor "()Ljava/lang/Object;" = some ⟨[], (some (.object "java/lang/Object"))⟩) rfl) rfl rfl (hb hby at_406) (by rw [hml]; rfl) (W := 0) (Nat.le_of_eq rfl) (by decide) (by decide) (by decide) (by decide) (pc' := 409) rfl fun u263 N264 T h265 w K266 P267 => ?_
      obtain ⟨rfl, P268⟩ := P267
      obtain ⟨rfl, rfl⟩ := P268
      show Run p e below _ T (mkF m 409 #[.val (.int p0), .val (.int p1), .val (.int p2), .val (.int p3), .val (.int p4), .val (.int p5), .val (.int v1), .val (.ref x3), .val (.int n0), .val (.ref y), .val (.ref o), .val (.ref aG)] [.ref aG])
      refine s_aload w (hb hby at_409) rfl rfl (pc' := 411) rfl ?_
      refine s_acmp_ne w (hb hby at_411) rfl rfl (by decide) (pc1 := 414) rfl (pc2 := 431) rfl (fun ct269 => ?_) (fun ct269 => ?_)
      · -- .ref aG = .ref aG
        refine s_aload w (hb hby at_414) rfl rfl (pc' := 416) rfl ?_
        refine w_virtualN w hEL (y := (⟨"com/example/tuikuan/tuikuan/Channel", "fieldValue", "()Ljava/lang/String;"⟩ : MethodName)) (y' := (⟨"com/example/tuikuan/tuikuan/Channel", "fieldValue", "()Ljava/lang/String;"⟩ : MethodName)) (C := "com/example/tuikuan/tuikuan/Channel") (a := aG) (hw _ (List.mem_of_getElem? (i := 111) rfl)) (hw _ (List.mem_of_getElem? (i := 112) rfl)) (hw _ (List.mem_of_getElem? (i := 114) rfl)) (hw _ (List.mem_of_getElem? (i := 114) rfl)) (hw _ (List.mem_of_getElem? (i := 113) rfl)) (hw _ (List.mem_of_getElem? (i := 40) rfl)) (hw _ (List.mem_of_getElem? (i := 115) rfl)) (by decide) (((((xG.ext hZ0).ext E197).ext E204).ext E209).ext E246) (rm_fv G0 h242 aG fG (((((lG.ext hZ0).ext E197).ext E204).ext E209).ext E246)) all0 all0 (argsL := []) (rest := []) (lenOf (by decide +kernel : parseMethodDescriptor "()Ljava/lang/String;" = some ⟨[], (some (.object "java/lang/String"))⟩) rfl) rfl rfl (hb hby at_416) (by rw [hml]; rfl) (W := 0) (Nat.le_of_eq rfl) (by decide) (by decide) (by decide) (by decide) (pc' := 419) rfl fun u270 N271 T h272 w K273 P274 => ?_
        obtain ⟨rfl, P275⟩ := P274
        obtain ⟨rfl, rfl⟩ := P275
        show Run p e below _ T (mkF m 419 #[.val (.int p0), .val (.int p1), .val (.int p2), .val (.int p3), .val (.int p4), .val (.int p5), .val (.int v1), .val (.ref x3), .val (.int n0), .val (.ref y), .val (.ref o), .val (.ref aG)] [.ref fG])
        refine s_aload w (hb hby at_419) rfl rfl (pc' := 421) rfl ?_
        refine w_strEq w hwE (hw _ (List.mem_of_getElem? (i := 10) rfl)) (hw _ (List.mem_of_getElem? (i := 80) rfl)) (hw _ (List.mem_of_getElem? (i := 68) rfl)) (hw _ (List.mem_of_getElem? (i := 70) rfl)) (hw _ (List.mem_of_getElem? (i := 69) rfl)) (((((tG.ext hZ0).ext E197).ext E204).ext E209).ext E246) (((Sy.ext E204).ext E209).ext E246) SC hz (hb hby at_421) (by rw [hml]; rfl) (W := 0) (Nat.le_of_eq rfl) (by decide) (by decide) (by decide) (by decide) (pc' := 424) rfl fun T z276 w hz277 => ?_
        refine s_if_eq w (hb hby at_424) (by decide) (pc1 := 427) rfl (pc2 := 431) rfl (fun ct278 => ?_) (fun ct278 => ?_)
        · -- ¬ (z276 = 0)
          refine s_iconst w (hb hby at_427) (v := 1) rfl (pc' := 428) rfl ?_
          refine s_goto w (hb hby at_428) (by decide) (pc' := 432) rfl ?_
          exact w_ireturn w hEL hs hlk hret rfl (Or.inr (Or.inl rfl)) (hb hby at_432) (by decide) (by decide) rfl
        · -- z276 = 0
          refine s_iconst w (hb hby at_431) (v := 0) rfl (pc' := 432) rfl ?_
          exact absurd en1.symm (hz277.elim (fun q => absurd (q.1.symm.trans ct278) (by decide)) (fun q => q.2))
      · -- ¬ (.ref aG = .ref aG)
        refine s_iconst w (hb hby at_431) (v := 0) rfl (pc' := 432) rfl ?_
        exact absurd rfl ct269
    · have en1 := hz254.elim (fun q => absurd (q.1.symm.trans ct255) (by decide)) (fun q => q.2)
      refine s_aload w (hb hby at_362) rfl rfl (pc' := 364) rfl ?_
      refine w_ldcS w hEL (text := "trade") (hw _ (List.mem_of_getElem? (i := 82) rfl)) hwA (by decide) (vs := [.int 116, .int 114, .int 97, .int 100, .int 101]) (z := 5) (n := 20) ⟨by decide, by decide⟩ (by decide) rfl (by decide) (by decide) (hb hby at_364) (pc' := 366) rfl (by decide) (by decide) fun T h279 x280 t281 kb282 w E283 A284 C285 V286 K287 N288 => ?_
      have F289 : Str Z h279 x280 [116, 114, 97, 100, 101] := Str.low A284 V286 C285 rfl rfl K287 (by decide) (by decide)
      refine w_strEq w hwE (hw _ (List.mem_of_getElem? (i := 10) rfl)) (hw _ (List.mem_of_getElem? (i := 80) rfl)) (hw _ (List.mem_of_getElem? (i := 68) rfl)) (hw _ (List.mem_of_getElem? (i := 70) rfl)) (hw _ (List.mem_of_getElem? (i := 69) rfl)) ((((Sy.ext E204).ext E209).ext E246).ext E283) F289 SC hz (hb hby at_366) (by rw [hml]; rfl) (W := 0) (Nat.le_of_eq rfl) (by decide) (by decide) (by decide) (by decide) (pc' := 369) rfl fun T z290 w hz291 => ?_
      refine s_if_eq w (hb hby at_369) (by decide) (pc1 := 372) rfl (pc2 := 377) rfl (fun ct292 => ?_) (fun ct292 => ?_)
      · have en2 := hz291.elim (fun q => q.2) (fun q => absurd q.1 ct292)
        refine w_getS w (hw _ (List.mem_of_getElem? (i := 116) rfl)) Via.refl (sT.ext w.old) (hb hby at_372) (pc' := 375) rfl fun T w => ?_
        refine s_astore w #[.val (.int p0), .val (.int p1), .val (.int p2), .val (.int p3), .val (.int p4), .val (.int p5), .val (.int v1), .val (.ref x3), .val (.int n0), .val (.ref y), .val (.ref o), .val (.ref aT)] (hb hby at_375) rfl rfl (pc' := 377) rfl ?_
        have ev : v0 = .ref aT := by rw [hv0, if_neg fun q => en0 q.symm, if_neg fun q => en1 q.symm, if_pos en2.symm]
        subst ev
        refine s_aload w (hb hby at_377) rfl rfl (pc' := 379) rfl ?_
        refine s_ifnonnull_yes w (hb hby at_379) (by decide) (pc' := 396) rfl ?_
        refine s_aload w (hb hby at_396) rfl rfl (pc' := 398) rfl ?_
        refine w_virtualN w hEL (y := (⟨"java/util/Optional", "isPresent", "()Z"⟩ : MethodName)) (y' := (⟨"java/util/Optional", "isPresent", "()Z"⟩ : MethodName)) (C := "java/util/Optional") (a := o) (hw _ (List.mem_of_getElem? (i := 83) rfl)) (hw _ (List.mem_of_getElem? (i := 84) rfl)) (hw _ (List.mem_of_getElem? (i := 86) rfl)) (hw _ (List.mem_of_getElem? (i := 86) rfl)) (hw _ (List.mem_of_getElem? (i := 85) rfl)) (hw _ (List.mem_of_getElem? (i := 44) rfl)) (hw _ (List.mem_of_getElem? (i := 87) rfl)) (by decide) (((Eo.ext E209).ext E246).ext E283) (rm_ip1 G0 h279 o aT (((Fo.ext E209).ext E246).ext E283)) all0 all0 (argsL := []) (rest := []) (lenOf (by decide +kernel : parseMethodDescriptor "()Z" = some ⟨[], (some .boolean)⟩) rfl) rfl rfl (hb hby at_398) (by rw [hml]; rfl) (W := 0) (Nat.le_of_eq rfl) (by decide) (by decide) (by decide) (by decide) (pc' := 401) rfl fun u293 N294 T h295 w K296 P297 => ?_
        obtain ⟨rfl, P298⟩ := P297
        obtain ⟨rfl, rfl⟩ := P298
        show Run p e below _ T (mkF m 401 #[.val (.int p0), .val (.int p1), .val (.int p2), .val (.int p3), .val (.int p4), .val (.int p5), .val (.int v1), .val (.ref x3), .val (.int n0), .val (.ref y), .val (.ref o), .val (.ref aT)] [.int 1])
        refine s_if_eq w (hb hby at_401) (by decide) (pc1 := 404) rfl (pc2 := 431) rfl (fun _ => ?_) (fun q => absurd q (by decide))
        refine s_aload w (hb hby at_404) rfl rfl (pc' := 406) rfl ?_
        refine w_virtualN w hEL (y := (⟨"java/util/Optional", "get", "()Ljava/lang/Object;"⟩ : MethodName)) (y' := (⟨"java/util/Optional", "get", "()Ljava/lang/Object;"⟩ : MethodName)) (C := "java/util/Optional") (a := o) (hw _ (List.mem_of_getElem? (i := 106) rfl)) (hw _ (List.mem_of_getElem? (i := 107) rfl)) (hw _ (List.mem_of_getElem? (i := 109) rfl)) (hw _ (List.mem_of_getElem? (i := 109) rfl)) (hw _ (List.mem_of_getElem? (i := 108) rfl)) (hw _ (List.mem_of_getElem? (i := 44) rfl)) (hw _ (List.mem_of_getElem? (i := 110) rfl)) (by decide) (((Eo.ext E209).ext E246).ext E283) (rm_get G0 h279 o aT (((Fo.ext E209).ext E246).ext E283)) all0 all0 (argsL := []) (rest := []) (lenOf (by decide +kernel : parseMethodDescriptor "()Ljava/lang/Object;" = some ⟨[], (some (.object "java/lang/Object"))⟩) rfl) rfl rfl (hb hby at_406) (by rw [hml]; rfl) (W := 0) (Nat.le_of_eq rfl) (by decide) (by decide) (by decide) (by decide) (pc' := 409) rfl fun u300 N301 T h302 w K303 P304 => ?_
        obtain ⟨rfl, P305⟩ := P304
        obtain ⟨rfl, rfl⟩ := P305
        show Run p e below _ T (mkF m 409 #[.val (.int p0), .val (.int p1), .val (.int p2), .val (.int p3), .val (.int p4), .val (.int p5), .val (.int v1), .val (.ref x3), .val (.int n0), .val (.ref y), .val (.ref o), .val (.ref aT)] [.ref aT])
        refine s_aload w (hb hby at_409) rfl rfl (pc' := 411) rfl ?_
        refine s_acmp_ne w (hb hby at_411) rfl rfl (by decide) (pc1 := 414) rfl (pc2 := 431) rfl (fun ct306 => ?_) (fun ct306 => ?_)
        · -- .ref aT = .ref aT
          refine s_aload w (hb hby at_414) rfl rfl (pc' := 416) rfl ?_
          refine w_virtualN w hEL (y := (⟨"com/example/tuikuan/tuikuan/Channel", "fieldValue", "()Ljava/lang/String;"⟩ : MethodName)) (y' := (⟨"com/example/tuikuan/tuikuan/Channel", "fieldValue", "()Ljava/lang/String;"⟩ : MethodName)) (C := "com/example/tuikuan/tuikuan/Channel") (a := aT) (hw _ (List.mem_of_getElem? (i := 111) rfl)) (hw _ (List.mem_of_getElem? (i := 112) rfl)) (hw _ (List.mem_of_getElem? (i := 114) rfl)) (hw _ (List.mem_of_getElem? (i := 114) rfl)) (hw _ (List.mem_of_getElem? (i := 113) rfl)) (hw _ (List.mem_of_getElem? (i := 40) rfl)) (hw _ (List.mem_of_getElem? (i := 115) rfl)) (by decide) ((((((xT.ext hZ0).ext E197).ext E204).ext E209).ext E246).ext E283) (rm_fv G0 h279 aT fT ((((((lT.ext hZ0).ext E197).ext E204).ext E209).ext E246).ext E283)) all0 all0 (argsL := []) (rest := []) (lenOf (by decide +kernel : parseMethodDescriptor "()Ljava/lang/String;" = some ⟨[], (some (.object "java/lang/String"))⟩) rfl) rfl rfl (hb hby at_416) (by rw [hml]; rfl) (W := 0) (Nat.le_of_eq rfl) (by decide) (by decide) (by decide) (by decide) (pc' := 419) rfl fun u307 N308 T h309 w K310 P311 => ?_
          obtain ⟨rfl, P312⟩ := P311
          obtain ⟨rfl, rfl⟩ := P312
          show Run p e below _ T (mkF m 419 #[.val (.int p0), .val (.int p1), .val (.int p2), .val (.int p3), .val (.int p4), .val (.int p5), .val (.int v1), .val (.ref x3), .val (.int n0), .val (.ref y), .val (.ref o), .val (.ref aT)] [.ref fT])
          refine s_aload w (hb hby at_419) rfl rfl (pc' := 421) rfl ?_
          refine w_strEq w hwE (hw _ (List.mem_of_getElem? (i := 10) rfl)) (hw _ (List.mem_of_getElem? (i := 80) rfl)) (hw _ (List.mem_of_getElem? (i := 68) rfl)) (hw _ (List.mem_of_getElem? (i := 70) rfl)) (hw _ (List.mem_of_getElem? (i := 69) rfl)) ((((((tT.ext hZ0).ext E197).ext E204).ext E209).ext E246).ext E283) ((((Sy.ext E204).ext E209).ext E246).ext E283) SC hz (hb hby at_421) (by rw [hml]; rfl) (W := 0) (Nat.le_of_eq rfl) (by decide) (by decide) (by decide) (by decide) (pc' := 424) rfl fun T z313 w hz314 => ?_
          refine s_if_eq w (hb hby at_424) (by decide) (pc1 := 427) rfl (pc2 := 431) rfl (fun ct315 => ?_) (fun ct315 => ?_)
          · -- ¬ (z313 = 0)
            refine s_iconst w (hb hby at_427) (v := 1) rfl (pc' := 428) rfl ?_
            refine s_goto w (hb hby at_428) (by decide) (pc' := 432) rfl ?_
            exact w_ireturn w hEL hs hlk hret rfl (Or.inr (Or.inl rfl)) (hb hby at_432) (by decide) (by decide) rfl
          · -- z313 = 0
            refine s_iconst w (hb hby at_431) (v := 0) rfl (pc' := 432) rfl ?_
            exact absurd en2.symm (hz314.elim (fun q => absurd (q.1.symm.trans ct315) (by decide)) (fun q => q.2))
        · -- ¬ (.ref aT = .ref aT)
          refine s_iconst w (hb hby at_431) (v := 0) rfl (pc' := 432) rfl ?_
          exact absurd rfl ct306
      · have en2 := hz291.elim (fun q => absurd (q.1.symm.trans ct292) (by decide)) (fun q => q.2)
        have ev : v0 = .null := by rw [hv0, if_neg fun q => en0 q.symm, if_neg fun q => en1 q.symm, if_neg fun q => en2 q.symm]
        subst ev
        refine s_aload w (hb hby at_377) rfl rfl (pc' := 379) rfl ?_
        refine s_ifnonnull_no w (hb hby at_379) (pc' := 382) rfl ?_
        refine s_aload w (hb hby at_382) rfl rfl (pc' := 384) rfl ?_
        refine w_virtualN w hEL (y := (⟨"java/util/Optional", "isPresent", "()Z"⟩ : MethodName)) (y' := (⟨"java/util/Optional", "isPresent", "()Z"⟩ : MethodName)) (C := "java/util/Optional") (a := o) (hw _ (List.mem_of_getElem? (i := 83) rfl)) (hw _ (List.mem_of_getElem? (i := 84) rfl)) (hw _ (List.mem_of_getElem? (i := 86) rfl)) (hw _ (List.mem_of_getElem? (i := 86) rfl)) (hw _ (List.mem_of_getElem? (i := 85) rfl)) (hw _ (List.mem_of_getElem? (i := 44) rfl)) (hw _ (List.mem_of_getElem? (i := 87) rfl)) (by decide) (((Eo.ext E209).ext E246).ext E283) (rm_ip0 G0 h279 o (((Fo.ext E209).ext E246).ext E283)) all0 all0 (argsL := []) (rest := []) (lenOf (by decide +kernel : parseMethodDescriptor "()Z" = some ⟨[], (some .boolean)⟩) rfl) rfl rfl (hb hby at_384) (by rw [hml]; rfl) (W := 0) (Nat.le_of_eq rfl) (by decide) (by decide) (by decide) (by decide) (pc' := 387) rfl fun u316 N317 T h318 w K319 P320 => ?_
        obtain ⟨rfl, P321⟩ := P320
        obtain ⟨rfl, rfl⟩ := P321
        show Run p e below _ T (mkF m 387 #[.val (.int p0), .val (.int p1), .val (.int p2), .val (.int p3), .val (.int p4), .val (.int p5), .val (.int v1), .val (.ref x3), .val (.int n0), .val (.ref y), .val (.ref o), .val (.null)] [.int 0])
        refine s_if_ne w (hb hby at_387) (by decide) (pc1 := 390) rfl (pc2 := 394) rfl (fun _ => ?_) (fun q => absurd q (by decide))
        refine s_iconst w (hb hby at_390) (v := 1) rfl (pc' := 391) rfl ?_
        refine s_goto w (hb hby at_391) (by decide) (pc' := 395) rfl ?_
        exact w_ireturn w hEL hs hlk hret rfl (Or.inr (Or.inl rfl)) (hb hby at_395) (by decide) (by decide) rfl
set_option maxRecDepth 65536 in
set_option maxHeartbeats 40000000 in
theorem comes_1 {Post : Tables → Env → Array Value → State → Outcome → State → Prop} (hpost : ∀ tb e args s v u, (limb_1_1.after args s (.returned v) u = true ∧ limb_1_2.after args s (.returned v) u = true ∧ True) → FramedW s (.returned v) u (Jvm.fieldLocs frame_1_writes args s ++ Jvm.arrayLocs frame_1_arrays args s ++ Jvm.staticLocs frame_1_statics s) room_1.cells room_1.slots → Post tb e args s (.returned v) u) :
    ArmFor flags0 classFile x code maxLocals ret World_1 tables_1 room_1 Calls_1 rest_1 Pre_1 Post := by
  intro l hfl _ _ p e ha hc hk s m args below hf hA hF happ hP
  obtain ⟨hcalls, hrest, hpre⟩ := hP
  obtain ⟨-, -, -, hnamed, -, -, -, hat⟩ := (Spec.applies_iff hf).mp happ
  obtain ⟨hg, hn⟩ := and_e (Cond.before_iff.mp (show (Jvm.Cond.and given_1 narrow_1).before args s = true from hpre))
  obtain ⟨hcnt, hg⟩ := and_e hg
  obtain ⟨w0, w1, w2, w3, w4, w5, rfl⟩ : ∃ w0 w1 w2 w3 w4 w5 : Value, args = #[w0, w1, w2, w3, w4, w5] := by
    have hs : args.size = 6 := by simpa [Cond.value, given_1] using hcnt
    obtain ⟨L⟩ := args
    match L, hs with
    | [w0, w1, w2, w3, w4, w5], _ => exact ⟨w0, w1, w2, w3, w4, w5, rfl⟩
  obtain ⟨g0, hg⟩ := and_e hg
  obtain ⟨g1, hg⟩ := and_e hg
  obtain ⟨g2, hg⟩ := and_e hg
  obtain ⟨g3, hg⟩ := and_e hg
  obtain ⟨g4, hg⟩ := and_e hg
  have g5 := hg
  obtain ⟨i0, e0⟩ := is_v g0
  obtain rfl : w0 = .int i0 := Option.some.inj e0
  obtain ⟨i1, e1⟩ := is_v g1
  obtain rfl : w1 = .int i1 := Option.some.inj e1
  obtain ⟨i2, e2⟩ := is_v g2
  obtain rfl : w2 = .int i2 := Option.some.inj e2
  obtain ⟨i3, e3⟩ := is_v g3
  obtain rfl : w3 = .int i3 := Option.some.inj e3
  obtain ⟨i4, e4⟩ := is_v g4
  obtain rfl : w4 = .int i4 := Option.some.inj e4
  obtain ⟨i5, e5⟩ := is_v g5
  obtain rfl : w5 = .int i5 := Option.some.inj e5
  have hw := fun d (hd : d ∈ tables_1) => atoms_spec (ws := Jvm.Cond.code x code maxLocals ret :: tables_1) hat d (List.mem_cons_of_mem _ hd)
  have hset : ∀ d ∈ jdkStatics_1, d.before _ s = true := (atoms_of jdkStatics_1 (show (jdkStatics_1.foldr Jvm.Cond.and restOwn_1).before _ s = true from hrest)).1
  have hfit : Fit s := fit_of hF
  obtain ⟨n0, hn⟩ := and_e hn
  obtain ⟨n1, hn⟩ := and_e hn
  obtain ⟨n2, hn⟩ := and_e hn
  obtain ⟨n3, hn⟩ := and_e hn
  obtain ⟨n4, hn⟩ := and_e hn
  obtain ⟨n5, hn⟩ := and_e hn
  obtain ⟨n6, hn⟩ := and_e hn
  obtain ⟨n7, hn⟩ := and_e hn
  obtain ⟨n8, hn⟩ := and_e hn
  obtain ⟨n9, hn⟩ := and_e hn
  obtain ⟨n10, hn⟩ := and_e hn
  obtain ⟨n11, hn⟩ := and_e hn
  obtain ⟨n12, hn⟩ := and_e hn
  obtain ⟨n13, hn⟩ := and_e hn
  obtain ⟨n14, hn⟩ := and_e hn
  obtain ⟨n15, hn⟩ := and_e hn
  obtain ⟨n16, hn⟩ := and_e hn
  obtain ⟨n17, hn⟩ := and_e hn
  obtain ⟨n18, hn⟩ := and_e hn
  obtain ⟨n19, hn⟩ := and_e hn
  obtain ⟨n20, hn⟩ := and_e hn
  obtain ⟨n21, hn⟩ := and_e hn
  obtain ⟨n22, hn⟩ := and_e hn
  obtain ⟨n23, hn⟩ := and_e hn
  obtain ⟨n24, hn⟩ := and_e hn
  obtain ⟨n25, hn⟩ := and_e hn
  obtain ⟨n26, hn⟩ := and_e hn
  obtain ⟨n27, hn⟩ := and_e hn
  obtain ⟨n28, hn⟩ := and_e hn
  obtain ⟨n29, hn⟩ := and_e hn
  obtain ⟨n30, hn⟩ := and_e hn
  obtain ⟨n31, hn⟩ := and_e hn
  obtain ⟨n32, hn⟩ := and_e hn
  obtain ⟨n33, hn⟩ := and_e hn
  obtain ⟨n34, hn⟩ := and_e hn
  obtain ⟨n35, hn⟩ := and_e hn
  obtain ⟨n36, hn⟩ := and_e hn
  obtain ⟨n37, hn⟩ := and_e hn
  have n38 := hn
  obtain ⟨va, vva⟩ := exa_v n1
  have xV := Exa.start vva n1
  have sV : Sta s s.heap CH "$VALUES" AD (.ref va) := Sta.start vva (Or.inr ⟨(hw _ (List.mem_of_getElem? (i := 40) rfl)), (hw _ (List.mem_of_getElem? (i := 51) rfl))⟩)
  obtain ⟨aD, vaD⟩ := exa_v n3
  have xD := Exa.start vaD n3
  have sD : Sta s s.heap CH "DIRECT" CD (.ref aD) := Sta.start vaD (Or.inr ⟨(hw _ (List.mem_of_getElem? (i := 40) rfl)), (hw _ (List.mem_of_getElem? (i := 59) rfl))⟩)
  obtain ⟨fD, vfD⟩ := exa_v n9
  have xfD := Exa.start vfD n9
  have lD : Fld s s.heap aD CH "fieldValue" SD (.ref fD) := Fld.start ((fld_at vaD).symm.trans vfD)
  have cD : Fld s s.heap fD ST "coder" "B" (.int 0) := Fld.start ((fld_at vfD).symm.trans (eq_int n10))
  obtain ⟨wD, vwD⟩ := len_v (eq_int n12)
  have dD : Fld s s.heap fD ST "value" "[B" (.ref wD) := Fld.start ((fld_at vfD).symm.trans vwD)
  obtain ⟨kD, KD⟩ := arv_start (vs := [.int 100, .int 105, .int 114, .int 101, .int 99, .int 116]) (dv := .int 0) hfit vwD n11 (eq_int n12) (by decide) (by decide) (by decide) (fun j hj => match j, hj with | 0, _ => eq_int n21 | 1, _ => eq_int n22 | 2, _ => eq_int n23 | 3, _ => eq_int n24 | 4, _ => eq_int n25 | 5, _ => eq_int n26 | j + 6, h => absurd (show j + 6 < 6 from h) (by omega))
  have tD : Str s s.heap fD [100, 105, 114, 101, 99, 116] := Str.low xfD dD cD rfl rfl KD (by decide) (by decide)
  obtain ⟨aG, vaG⟩ := exa_v n5
  have xG := Exa.start vaG n5
  have sG : Sta s s.heap CH "GATEWAY" CD (.ref aG) := Sta.start vaG (Or.inr ⟨(hw _ (List.mem_of_getElem? (i := 40) rfl)), (hw _ (List.mem_of_getElem? (i := 60) rfl))⟩)
  obtain ⟨fG, vfG⟩ := exa_v n13
  have xfG := Exa.start vfG n13
  have lG : Fld s s.heap aG CH "fieldValue" SD (.ref fG) := Fld.start ((fld_at vaG).symm.trans vfG)
  have cG : Fld s s.heap fG ST "coder" "B" (.int 0) := Fld.start ((fld_at vfG).symm.trans (eq_int n14))
  obtain ⟨wG, vwG⟩ := len_v (eq_int n16)
  have dG : Fld s s.heap fG ST "value" "[B" (.ref wG) := Fld.start ((fld_at vfG).symm.trans vwG)
  obtain ⟨kG, KG⟩ := arv_start (vs := [.int 103, .int 97, .int 116, .int 101, .int 119, .int 97, .int 121]) (dv := .int 0) hfit vwG n15 (eq_int n16) (by decide) (by decide) (by decide) (fun j hj => match j, hj with | 0, _ => eq_int n27 | 1, _ => eq_int n28 | 2, _ => eq_int n29 | 3, _ => eq_int n30 | 4, _ => eq_int n31 | 5, _ => eq_int n32 | 6, _ => eq_int n33 | j + 7, h => absurd (show j + 7 < 7 from h) (by omega))
  have tG : Str s s.heap fG [103, 97, 116, 101, 119, 97, 121] := Str.low xfG dG cG rfl rfl KG (by decide) (by decide)
  obtain ⟨aT, vaT⟩ := exa_v n7
  have xT := Exa.start vaT n7
  have sT : Sta s s.heap CH "TRADE" CD (.ref aT) := Sta.start vaT (Or.inr ⟨(hw _ (List.mem_of_getElem? (i := 40) rfl)), (hw _ (List.mem_of_getElem? (i := 61) rfl))⟩)
  obtain ⟨fT, vfT⟩ := exa_v n17
  have xfT := Exa.start vfT n17
  have lT : Fld s s.heap aT CH "fieldValue" SD (.ref fT) := Fld.start ((fld_at vaT).symm.trans vfT)
  have cT : Fld s s.heap fT ST "coder" "B" (.int 0) := Fld.start ((fld_at vfT).symm.trans (eq_int n18))
  obtain ⟨wT, vwT⟩ := len_v (eq_int n20)
  have dT : Fld s s.heap fT ST "value" "[B" (.ref wT) := Fld.start ((fld_at vfT).symm.trans vwT)
  obtain ⟨kT, KT⟩ := arv_start (vs := [.int 116, .int 114, .int 97, .int 100, .int 101]) (dv := .int 0) hfit vwT n19 (eq_int n20) (by decide) (by decide) (by decide) (fun j hj => match j, hj with | 0, _ => eq_int n34 | 1, _ => eq_int n35 | 2, _ => eq_int n36 | 3, _ => eq_int n37 | 4, _ => eq_int n38 | j + 5, h => absurd (show j + 5 < 5 from h) (by omega))
  have tT : Str s s.heap fT [116, 114, 97, 100, 101] := Str.low xfT dT cT rfl rfl KT (by decide) (by decide)
  obtain ⟨kv, rV⟩ := arv_start (vs := [.ref aD, .ref aG, .ref aT]) (dv := .null) hfit vva n0 (eq_int n2) (by decide) rfl (Nat.le_of_ble_eq_true rfl) (fun j hj => match j, hj with | 0, _ => eq_ref vaD n4 | 1, _ => eq_ref vaG n6 | 2, _ => eq_ref vaT n8 | j + 3, h => absurd (show j + 3 < 3 from h) (by omega))
  obtain ⟨eO, veO⟩ := exa_v (Cond.before_iff.mp (hset _ (List.mem_of_getElem? (i := 11) rfl)))
  have sE : Sta s s.heap OPT "EMPTY" OD (.ref eO) := Sta.start veO (Or.inl (hset _ (List.mem_of_getElem? (i := 10) rfl)))
  have xE := Exa.start veO (Cond.before_iff.mp (hset _ (List.mem_of_getElem? (i := 11) rfl)))
  have vE : Fld s s.heap eO OPT "value" OJ .null := Fld.start ((fld_at veO).symm.trans (eq_nul (Cond.before_iff.mp (hset _ (List.mem_of_getElem? (i := 12) rfl)))))
  have hEL : EW s _ consts_1 := (EW.cons (hw _ (List.mem_of_getElem? (i := 77) rfl)) (by decide) (EW.cons (hw _ (List.mem_of_getElem? (i := 81) rfl)) (by decide) (EW.cons (hw _ (List.mem_of_getElem? (i := 82) rfl)) (by decide) (EW.cons (hw _ (List.mem_of_getElem? (i := 90) rfl)) (by decide) EW.nil))))
  obtain ⟨zc, vzc⟩ := is_v (Cond.before_iff.mp (hset _ (List.mem_of_getElem? (i := 1) rfl)))
  have SC : Sta s s.heap ST "COMPACT_STRINGS" "Z" (.int zc) := Sta.start vzc (Or.inl (hset _ (List.mem_of_getElem? (i := 0) rfl)))
  have hz : ¬ zc = 0 := ne_int vzc (hset _ (List.mem_of_getElem? (i := 2) rfl))
  have G : Gl s #[.int i0, .int i1, .int i2, .int i3, .int i4, .int i5] zc aD aG aT fD fG fT va eO kv := ⟨hw, hEL, SC, hz, sD, sG, sT, sV, sE, xE, vE, xV, rV, xD, xG, xT, lD, lG, lT, tD, tG, tT⟩
  have hCH : CHv s consts_1 s.vm s.heap := CHv.start hEL (fun q hq => hcalls.1 q hq) (hset _ (List.mem_of_getElem? (i := 2) rfl)) (hw _ (List.mem_of_getElem? (i := 27) rfl)) (hw _ (List.mem_of_getElem? (i := 10) rfl))
  obtain ⟨n, o, h1, h2, h3, v, L, rfl, ⟨N, -, -, ⟨-, rfl⟩, -⟩, -, hq⟩ := (rm_law (l := l) G s.heap i0 i1 i2 i3 i4 i5) tables_1 p e ha hc hk s m _ below hf ((Spec.applies_iff_loose hf).mp happ).1 ⟨rfl, State.Warmed39.refl s, rfl, hCH, Ext.rf _, all0, all0⟩ trivial
  refine ⟨n, _, h1, h2, h3, hpost _ _ _ _ _ _ ⟨Cond.after_iff.mpr rfl, Cond.after_iff.mpr (eq_i res_at (Term.int_eval (1)) rfl), trivial⟩ ⟨hq.1, hq.2.1, hq.2.2.1, hq.2.2.2.sift fun y hy => Or.inr (N y hy)⟩⟩
end Ow
theorem main_1_1 : Claimed_1_1 := Ow.comes_1 fun _ _ _ _ _ _ h hF => ⟨h.1, hF⟩
theorem main_1_2 : Claimed_1_2 := Ow.comes_1 fun _ _ _ _ _ _ h hF => ⟨h.2.1, hF⟩
end Jvm.Pilot.@@N@@
namespace Jvm.Pilot.@@N@@
open Jvm Jvm.ClassFile Sem Op Lib Jvm.Free Jvm.Stand Jvm.Pilot.@@N@@.Jvm.D
/-! MADE BY PROGRAM (witnessworld.py) out of the Statement's table words and the real class files: 24 classes; the members and pool entries that the words name. The judged class is class 1, her method 3. -/
namespace start1
open Jvm.ClassFile
def u (s : String) : CpInfo := .utf8 (stringToUtf16 s)
/-- a pool by its gaps: so many unusable entries, then the entry; so many at the end -/
def gap : Nat → List CpInfo → List CpInfo
  | 0, r => r
  | n + 1, r => .unusable :: gap n r
def poolList (es : List (Nat × CpInfo)) (last : Nat) : List CpInfo := es.foldr (fun e r => gap e.1 (e.2 :: r)) (gap last [])
def pool (es : List (Nat × CpInfo)) (last : Nat) : Array CpInfo := ⟨poolList es last⟩
def fileOf (pool : Array CpInfo) (this : Nat) (attrs : Array Attribute := #[]) (ms : Array MethodInfo := #[]) (fl : Nat := 33) (sup : Nat := 0) (ifs : Array Nat := #[]) (fds : Array FieldInfo := #[]) : ClassFile where
  minorVersion := 0
  majorVersion := 65
  constantPool := pool
  accessFlags := fl
  thisClass := this
  superClass := sup
  interfaces := ifs
  fields := fds
  methods := ms
  attributes := attrs
def plain (name : String) (sup : Option ClassId) : Class where
  name := name
  kind := .ordinary
  loader := none
  accessFlags := 33
  super := sup
  interfaces := #[]
  cf := none
  fields := #[]
  methods := #[]
  instanceTypes := #[]
  staticTypes := #[]
  resolved := #[]
  callSites := []
  init := .initialized
  statics := none
  mirror := none

def pool0 : Array CpInfo := pool [(5, u "<init>"), (0, u "()V"), (1, .class_ 10), (1, u "java/lang/Object"), (85, u "clone"), (0, u "()Ljava/lang/Object;")] 26

def k0c0 : Code := { maxStack := 0, maxLocals := 1, code := object_method_1_code, exceptionTable := #[], attributes := #[] }
def k0m0 : Method := { name := "<init>", desc := "()V", sig := { parameters := [], returnType := none }, accessFlags := 1, code := some k0c0 }
def k0m1 : Method := { name := "clone", desc := "()Ljava/lang/Object;", sig := { parameters := [], returnType := some (.object "java/lang/Object") }, accessFlags := 260, code := none }
/-- java/lang/Object -/
def k0 : Class := { plain "java/lang/Object" none with
  accessFlags := 33
  interfaces := #[]
  cf := some (fileOf pool0 8 #[] #[{ accessFlags := 1, nameIndex := 5, descriptorIndex := 6, attributes := #[] }, { accessFlags := 260, nameIndex := 96, descriptorIndex := 97, attributes := #[] }] 33 0 #[] #[])
  fields := #[]
  methods := #[k0m0, k0m1]
  instanceTypes := #[]
  staticTypes := #[]
  resolved := Array.replicate 124 none
  statics := none }

def pool1 : Array CpInfo := pool [(2, .class_ 4), (1, u "java/lang/Object"), (0, u "<init>"), (0, u "()V"), (0, .class_ 8), (0, u "java/lang/String"), (0, .methodref 7 10), (0, .nameAndType 5 11), (0, u "([C)V"), (0, .methodref 13 14), (0, .class_ 15), (0, .nameAndType 16 17), (0, u "com/example/tuikuan/tuikuan/ChannelNamedPinLaw"), (0, u "b"), (0, u "(II)C"), (0, .integer 2147483647), (0, .methodref 13 20), (0, .nameAndType 21 22), (0, u "mk"), (0, u "([CI)Ljava/lang/String;"), (0, .methodref 24 25), (0, .class_ 26), (0, .nameAndType 27 28), (0, u "com/example/tuikuan/tuikuan/Channel"), (0, u "named"), (0, u "(Ljava/lang/String;)Ljava/util/Optional;"), (0, .string 30), (0, u "direct"), (0, .methodref 7 32), (0, .nameAndType 33 34), (0, u "equals"), (0, u "(Ljava/lang/Object;)Z"), (0, .fieldref 24 36), (0, .nameAndType 37 38), (0, u "DIRECT"), (0, u "Lcom/example/tuikuan/tuikuan/Channel;"), (0, .string 40), (0, u "gateway"), (0, .fieldref 24 42), (0, .nameAndType 43 38), (0, u "GATEWAY"), (0, .string 45), (0, u "trade"), (0, .fieldref 24 47), (0, .nameAndType 48 38), (0, u "TRADE"), (0, .methodref 50 51), (0, .class_ 52), (0, .nameAndType 53 54), (0, u "java/util/Optional"), (0, u "isPresent"), (0, u "()Z"), (0, .methodref 50 56), (0, .nameAndType 57 58), (0, u "get"), (0, u "()Ljava/lang/Object;"), (0, .methodref 24 60), (0, .nameAndType 61 62), (0, u "fieldValue"), (0, u "()Ljava/lang/String;"), (3, u "law"), (0, u "(IIIIII)Z")] 4

def k1m0 : Method := { name := "<init>", desc := "()V", sig := { parameters := [], returnType := none }, accessFlags := 1, code := none }
def k1c1 : Code := { maxStack := 3, maxLocals := 2, code := method_2_code, exceptionTable := #[], attributes := #[] }
def k1m1 : Method := { name := "b", desc := "(II)C", sig := { parameters := [.int, .int], returnType := some .char }, accessFlags := 10, code := some k1c1 }
def k1c2 : Code := { maxStack := 7, maxLocals := 2, code := method_3_code, exceptionTable := #[], attributes := #[] }
def k1m2 : Method := { name := "mk", desc := "([CI)Ljava/lang/String;", sig := { parameters := [(.array .char), .int], returnType := some (.object "java/lang/String") }, accessFlags := 10, code := some k1c2 }
def k1c3 : Code := { maxStack := 4, maxLocals := 12, code := code, exceptionTable := #[], attributes := #[] }
def k1m3 : Method := { name := "law", desc := "(IIIIII)Z", sig := { parameters := [.int, .int, .int, .int, .int, .int], returnType := some .boolean }, accessFlags := 9, code := some k1c3 }
/-- com/example/tuikuan/tuikuan/ChannelNamedPinLaw -/
def k1 : Class := { plain "com/example/tuikuan/tuikuan/ChannelNamedPinLaw" (some 0) with
  accessFlags := 49
  interfaces := #[]
  cf := some (fileOf pool1 13 #[] #[{ accessFlags := 1, nameIndex := 5, descriptorIndex := 6, attributes := #[] }, { accessFlags := 10, nameIndex := 16, descriptorIndex := 17, attributes := #[] }, { accessFlags := 10, nameIndex := 21, descriptorIndex := 22, attributes := #[] }, { accessFlags := 9, nameIndex := 66, descriptorIndex := 67, attributes := #[] }] 49 2 #[] #[])
  fields := #[]
  methods := #[k1m0, k1m1, k1m2, k1m3]
  instanceTypes := #[]
  staticTypes := #[]
  resolved := Array.replicate 72 none
  statics := none }

def pool2 : Array CpInfo := pool [(1, .class_ 2), (0, u "java/io/Serializable"), (0, .class_ 4), (0, u "java/lang/Object")] 2

/-- java/io/Serializable -/
def k2 : Class := { plain "java/io/Serializable" (some 0) with
  accessFlags := 1537
  interfaces := #[]
  cf := some (fileOf pool2 1 #[] #[] 1537 3 #[] #[])
  fields := #[]
  methods := #[]
  instanceTypes := #[]
  staticTypes := #[]
  resolved := Array.replicate 7 none
  statics := none }

def pool3 : Array CpInfo := pool [(1, .class_ 2), (0, u "java/lang/Comparable"), (0, .class_ 4), (0, u "java/lang/Object")] 7

/-- java/lang/Comparable -/
def k3 : Class := { plain "java/lang/Comparable" (some 0) with
  accessFlags := 1537
  interfaces := #[]
  cf := some (fileOf pool3 1 #[] #[] 1537 3 #[] #[])
  fields := #[]
  methods := #[]
  instanceTypes := #[]
  staticTypes := #[]
  resolved := Array.replicate 12 none
  statics := none }

def pool4 : Array CpInfo := pool [(2, .class_ 4), (1, u "java/lang/CharSequence"), (42, .class_ 48), (0, u "java/lang/CharSequence$1CodePointIterator"), (10, .class_ 60), (0, u "java/lang/CharSequence$1CharIterator"), (5, .class_ 67), (0, u "java/lang/Object")] 63

/-- java/lang/CharSequence -/
def k4 : Class := { plain "java/lang/CharSequence" (some 0) with
  accessFlags := 1537
  interfaces := #[]
  cf := some (fileOf pool4 2 #[.nestMembers #[47, 59]] #[] 1537 66 #[] #[])
  fields := #[]
  methods := #[]
  instanceTypes := #[]
  staticTypes := #[]
  resolved := Array.replicate 131 none
  statics := none }

def pool5 : Array CpInfo := pool [(1, .class_ 2), (0, u "java/lang/constant/Constable"), (0, .class_ 4), (0, u "java/lang/Object")] 6

/-- java/lang/constant/Constable -/
def k5 : Class := { plain "java/lang/constant/Constable" (some 0) with
  accessFlags := 1537
  interfaces := #[]
  cf := some (fileOf pool5 1 #[] #[] 1537 3 #[] #[])
  fields := #[]
  methods := #[]
  instanceTypes := #[]
  staticTypes := #[]
  resolved := Array.replicate 11 none
  statics := none }

def pool6 : Array CpInfo := pool [(1, .class_ 2), (0, u "java/lang/constant/ConstantDesc"), (0, .class_ 4), (0, u "java/lang/Object")] 32

/-- java/lang/constant/ConstantDesc -/
def k6 : Class := { plain "java/lang/constant/ConstantDesc" (some 0) with
  accessFlags := 1537
  interfaces := #[]
  cf := some (fileOf pool6 1 #[] #[] 1537 3 #[] #[])
  fields := #[]
  methods := #[]
  instanceTypes := #[]
  staticTypes := #[]
  resolved := Array.replicate 37 none
  statics := none }

def pool7 : Array CpInfo := pool [(1, .methodref 2 3), (0, .class_ 4), (0, .nameAndType 5 6), (0, u "java/lang/Object"), (0, u "<init>"), (0, u "()V"), (0, .string 8), (0, u ""), (0, .fieldref 10 11), (0, .class_ 12), (0, .nameAndType 13 14), (0, u "java/lang/String"), (0, u "value"), (0, u "[B"), (0, .fieldref 10 16), (0, .nameAndType 17 18), (0, u "coder"), (0, u "B"), (2, u "hash"), (0, u "I"), (2, u "hashIsZero"), (0, u "Z"), (0, .methodref 10 28), (0, .nameAndType 5 29), (0, u "([CIILjava/lang/Void;)V"), (8, .fieldref 10 39), (0, .nameAndType 40 26), (0, u "COMPACT_STRINGS"), (1, .class_ 44), (1, u "java/lang/StringUTF16"), (0, u "compress"), (1, .methodref 42 48), (0, .nameAndType 49 50), (0, u "coderFromArrayLen"), (0, u "([BI)B"), (56, .class_ 109), (1, u "java/lang/StringLatin1"), (67, .methodref 42 178), (0, .nameAndType 45 179), (0, u "([CII)[B"), (361, .methodref 107 542), (0, .nameAndType 543 544), (0, u "equals"), (0, u "([B[B)Z"), (28, u "(Ljava/lang/Object;)Z"), (1, .class_ 576), (0, u "java/lang/CharSequence"), (22, u "CASE_INSENSITIVE_ORDER"), (0, u "Ljava/util/Comparator;"), (409, u "([C)V"), (90, u "serialPersistentFields"), (0, u "[Ljava/io/ObjectStreamField;"), (0, .class_ 1104), (0, u "java/lang/String$CaseInsensitiveComparator"), (1, .class_ 1107), (0, u "java/io/Serializable"), (0, .class_ 1109), (0, u "java/lang/Comparable"), (0, .class_ 1111), (0, u "java/lang/constant/Constable"), (0, .class_ 1113), (0, u "java/lang/constant/ConstantDesc"), (2, u "serialVersionUID"), (0, u "J"), (3, u "REPL"), (0, u "C"), (2, u "LATIN1"), (1, u "UTF16")] 323

def k7m0 : Method := { name := "<init>", desc := "()V", sig := { parameters := [], returnType := none }, accessFlags := 1, code := none }
def k7c1 : Code := { maxStack := 5, maxLocals := 2, code := jdk_42_method_3_code, exceptionTable := #[], attributes := #[] }
def k7m1 : Method := { name := "<init>", desc := "([C)V", sig := { parameters := [(.array .char)], returnType := none }, accessFlags := 1, code := some k7c1 }
def k7c2 : Code := { maxStack := 2, maxLocals := 3, code := jdk_42_method_66_code, exceptionTable := #[], attributes := #[] }
def k7m2 : Method := { name := "equals", desc := "(Ljava/lang/Object;)Z", sig := { parameters := [(.object "java/lang/Object")], returnType := some .boolean }, accessFlags := 1, code := some k7c2 }
def k7c3 : Code := { maxStack := 4, maxLocals := 6, code := jdk_42_method_149_code, exceptionTable := #[], attributes := #[] }
def k7m3 : Method := { name := "<init>", desc := "([CIILjava/lang/Void;)V", sig := { parameters := [(.array .char), .int, .int, (.object "java/lang/Void")], returnType := none }, accessFlags := 2, code := some k7c3 }
/-- java/lang/String -/
def k7 : Class := { plain "java/lang/String" (some 0) with
  accessFlags := 49
  interfaces := #[2, 3, 4, 5, 6]
  cf := some (fileOf pool7 10 #[.nestMembers #[1103]] #[{ accessFlags := 1, nameIndex := 5, descriptorIndex := 6, attributes := #[] }, { accessFlags := 1, nameIndex := 5, descriptorIndex := 1010, attributes := #[] }, { accessFlags := 1, nameIndex := 543, descriptorIndex := 573, attributes := #[] }, { accessFlags := 2, nameIndex := 5, descriptorIndex := 29, attributes := #[] }] 49 2 #[1106, 1108, 575, 1110, 1112] #[{ accessFlags := 18, nameIndex := 13, descriptorIndex := 14, attributes := #[] }, { accessFlags := 18, nameIndex := 17, descriptorIndex := 18, attributes := #[] }, { accessFlags := 2, nameIndex := 21, descriptorIndex := 22, attributes := #[] }, { accessFlags := 2, nameIndex := 25, descriptorIndex := 26, attributes := #[] }, { accessFlags := 26, nameIndex := 1116, descriptorIndex := 1117, attributes := #[] }, { accessFlags := 24, nameIndex := 40, descriptorIndex := 26, attributes := #[] }, { accessFlags := 26, nameIndex := 1101, descriptorIndex := 1102, attributes := #[] }, { accessFlags := 26, nameIndex := 1121, descriptorIndex := 1122, attributes := #[] }, { accessFlags := 25, nameIndex := 599, descriptorIndex := 600, attributes := #[] }, { accessFlags := 24, nameIndex := 1125, descriptorIndex := 18, attributes := #[] }, { accessFlags := 24, nameIndex := 1127, descriptorIndex := 18, attributes := #[] }])
  fields := #[{ name := "value", type := (.array .byte), accessFlags := 18, slot := 0, constantValue := 0 }, { name := "coder", type := .byte, accessFlags := 18, slot := 1, constantValue := 0 }, { name := "hash", type := .int, accessFlags := 2, slot := 2, constantValue := 0 }, { name := "hashIsZero", type := .boolean, accessFlags := 2, slot := 3, constantValue := 0 }, { name := "serialVersionUID", type := .long, accessFlags := 26, slot := 0, constantValue := 0 }, { name := "COMPACT_STRINGS", type := .boolean, accessFlags := 24, slot := 1, constantValue := 0 }, { name := "serialPersistentFields", type := (.array (.object "java/io/ObjectStreamField")), accessFlags := 26, slot := 2, constantValue := 0 }, { name := "REPL", type := .char, accessFlags := 26, slot := 3, constantValue := 0 }, { name := "CASE_INSENSITIVE_ORDER", type := (.object "java/util/Comparator"), accessFlags := 25, slot := 4, constantValue := 0 }, { name := "LATIN1", type := .byte, accessFlags := 24, slot := 5, constantValue := 0 }, { name := "UTF16", type := .byte, accessFlags := 24, slot := 6, constantValue := 0 }]
  methods := #[k7m0, k7m1, k7m2, k7m3]
  instanceTypes := #[(.array .byte), .byte, .int, .boolean]
  staticTypes := #[.long, .boolean, (.array (.object "java/io/ObjectStreamField")), .char, (.object "java/util/Comparator"), .byte, .byte]
  resolved := Array.replicate 1451 none
  statics := some 0 }

def pool8 : Array CpInfo := pool [(6, .class_ 8), (1, u "java/lang/Object"), (0, u "<init>"), (0, u "()V"), (1, .class_ 14), (1, u "java/lang/StringUTF16"), (31, u "$assertionsDisabled"), (0, u "Z"), (13, u "HI_BYTE_SHIFT"), (0, u "I"), (2, u "LO_BYTE_SHIFT"), (49, .methodref 12 116), (0, .nameAndType 117 118), (0, u "compress"), (0, u "([CI[BII)I"), (3, u "([CII)[B"), (138, u "coderFromArrayLen"), (0, u "([BI)B"), (106, .class_ 371), (1, u "java/lang/StringUTF16$LinesSpliterator"), (58, u "MAX_LENGTH"), (196, .class_ 628), (0, u "java/lang/StringUTF16$CodePointsSpliterator"), (0, .class_ 630), (0, u "java/lang/StringUTF16$CharsSpliterator")] 4

def k8m0 : Method := { name := "<init>", desc := "()V", sig := { parameters := [], returnType := none }, accessFlags := 0, code := none }
def k8c1 : Code := { maxStack := 2, maxLocals := 2, code := jdk_52_method_15_code, exceptionTable := #[], attributes := #[] }
def k8m1 : Method := { name := "coderFromArrayLen", desc := "([BI)B", sig := { parameters := [(.array .byte), .int], returnType := some .byte }, accessFlags := 8, code := some k8c1 }
def k8c2 : Code := { maxStack := 5, maxLocals := 6, code := jdk_52_method_16_code, exceptionTable := #[], attributes := #[] }
def k8m2 : Method := { name := "compress", desc := "([CII)[B", sig := { parameters := [(.array .char), .int, .int], returnType := some (.array .byte) }, accessFlags := 9, code := some k8c2 }
def k8c3 : Code := { maxStack := 3, maxLocals := 7, code := jdk_52_method_21_code, exceptionTable := #[], attributes := #[] }
def k8m3 : Method := { name := "compress", desc := "([CI[BII)I", sig := { parameters := [(.array .char), .int, (.array .byte), .int, .int], returnType := some .int }, accessFlags := 9, code := some k8c3 }
/-- java/lang/StringUTF16 -/
def k8 : Class := { plain "java/lang/StringUTF16" (some 0) with
  accessFlags := 48
  interfaces := #[]
  cf := some (fileOf pool8 12 #[.nestMembers #[627, 629, 369]] #[{ accessFlags := 0, nameIndex := 9, descriptorIndex := 10, attributes := #[] }, { accessFlags := 8, nameIndex := 261, descriptorIndex := 262, attributes := #[] }, { accessFlags := 9, nameIndex := 117, descriptorIndex := 122, attributes := #[] }, { accessFlags := 9, nameIndex := 117, descriptorIndex := 118, attributes := #[] }] 48 6 #[] #[{ accessFlags := 26, nameIndex := 61, descriptorIndex := 62, attributes := #[] }, { accessFlags := 26, nameIndex := 65, descriptorIndex := 62, attributes := #[] }, { accessFlags := 24, nameIndex := 430, descriptorIndex := 62, attributes := #[] }, { accessFlags := 4120, nameIndex := 46, descriptorIndex := 47, attributes := #[] }])
  fields := #[{ name := "HI_BYTE_SHIFT", type := .int, accessFlags := 26, slot := 0, constantValue := 0 }, { name := "LO_BYTE_SHIFT", type := .int, accessFlags := 26, slot := 1, constantValue := 0 }, { name := "MAX_LENGTH", type := .int, accessFlags := 24, slot := 2, constantValue := 0 }, { name := "$assertionsDisabled", type := .boolean, accessFlags := 4120, slot := 3, constantValue := 0 }]
  methods := #[k8m0, k8m1, k8m2, k8m3]
  instanceTypes := #[]
  staticTypes := #[.int, .int, .int, .boolean]
  resolved := Array.replicate 635 none
  statics := none }

def pool9 : Array CpInfo := pool [(2, .class_ 4), (1, u "java/lang/Enum"), (0, u "name"), (0, u "Ljava/lang/String;"), (2, u "ordinal"), (0, u "I"), (1, .class_ 14), (1, u "java/lang/Object"), (4, u "hash"), (86, .class_ 108), (1, u "java/lang/Enum$EnumDesc"), (2, .class_ 112), (0, u "java/lang/constant/Constable"), (0, .class_ 114), (0, u "java/lang/Comparable"), (0, .class_ 116), (0, u "java/io/Serializable")] 87

/-- java/lang/Enum -/
def k9 : Class := { plain "java/lang/Enum" (some 0) with
  accessFlags := 1057
  interfaces := #[5, 3, 2]
  cf := some (fileOf pool9 2 #[.nestMembers #[106]] #[] 1057 12 #[111, 113, 115] #[{ accessFlags := 18, nameIndex := 5, descriptorIndex := 6, attributes := #[] }, { accessFlags := 18, nameIndex := 9, descriptorIndex := 10, attributes := #[] }, { accessFlags := 2, nameIndex := 19, descriptorIndex := 10, attributes := #[] }])
  fields := #[{ name := "name", type := (.object "java/lang/String"), accessFlags := 18, slot := 0, constantValue := 0 }, { name := "ordinal", type := .int, accessFlags := 18, slot := 1, constantValue := 0 }, { name := "hash", type := .int, accessFlags := 2, slot := 2, constantValue := 0 }]
  methods := #[]
  instanceTypes := #[(.object "java/lang/String"), .int, .int]
  staticTypes := #[]
  resolved := Array.replicate 204 none
  statics := none }

def pool10 : Array CpInfo := pool [(1, .class_ 2), (0, u "com/example/tuikuan/tuikuan/Channel"), (2, u "DIRECT"), (0, u "Lcom/example/tuikuan/tuikuan/Channel;"), (2, u "GATEWAY"), (2, u "TRADE"), (0, .fieldref 1 14), (0, .nameAndType 15 16), (0, u "$VALUES"), (0, u "[Lcom/example/tuikuan/tuikuan/Channel;"), (0, .methodref 18 19), (0, .class_ 16), (0, .nameAndType 20 21), (0, u "clone"), (0, u "()Ljava/lang/Object;"), (1, .class_ 25), (1, u "java/lang/Enum"), (6, .fieldref 1 33), (0, .nameAndType 34 35), (0, u "fieldValue"), (0, u "Ljava/lang/String;"), (2, u "carrier"), (0, .methodref 40 41), (0, .class_ 42), (0, .nameAndType 43 44), (0, u "java/util/Optional"), (0, u "empty"), (0, u "()Ljava/util/Optional;"), (0, .methodref 1 46), (0, .nameAndType 47 48), (0, u "values"), (0, u "()[Lcom/example/tuikuan/tuikuan/Channel;"), (0, .methodref 50 51), (0, .class_ 52), (0, .nameAndType 53 54), (0, u "java/lang/String"), (0, u "equals"), (0, u "(Ljava/lang/Object;)Z"), (0, .methodref 40 56), (0, .nameAndType 57 58), (0, u "of"), (0, u "(Ljava/lang/Object;)Ljava/util/Optional;"), (27, u "()Ljava/lang/String;"), (0, u "named"), (0, u "(Ljava/lang/String;)Ljava/util/Optional;")] 7

def k10c0 : Code := { maxStack := 1, maxLocals := 0, code := prog_2_method_1_code, exceptionTable := #[], attributes := #[] }
def k10m0 : Method := { name := "values", desc := "()[Lcom/example/tuikuan/tuikuan/Channel;", sig := { parameters := [], returnType := some (.array (.object "com/example/tuikuan/tuikuan/Channel")) }, accessFlags := 9, code := some k10c0 }
def k10c1 : Code := { maxStack := 1, maxLocals := 1, code := prog_2_method_4_code, exceptionTable := #[], attributes := #[] }
def k10m1 : Method := { name := "fieldValue", desc := "()Ljava/lang/String;", sig := { parameters := [], returnType := some (.object "java/lang/String") }, accessFlags := 0, code := some k10c1 }
def k10c2 : Code := { maxStack := 2, maxLocals := 6, code := prog_2_method_6_code, exceptionTable := #[], attributes := #[] }
def k10m2 : Method := { name := "named", desc := "(Ljava/lang/String;)Ljava/util/Optional;", sig := { parameters := [(.object "java/lang/String")], returnType := some (.object "java/util/Optional") }, accessFlags := 8, code := some k10c2 }
/-- com/example/tuikuan/tuikuan/Channel -/
def k10 : Class := { plain "com/example/tuikuan/tuikuan/Channel" (some 9) with
  accessFlags := 16432
  interfaces := #[]
  cf := some (fileOf pool10 1 #[] #[{ accessFlags := 9, nameIndex := 47, descriptorIndex := 48, attributes := #[] }, { accessFlags := 0, nameIndex := 34, descriptorIndex := 86, attributes := #[] }, { accessFlags := 8, nameIndex := 87, descriptorIndex := 88, attributes := #[] }] 16432 23 #[] #[{ accessFlags := 16409, nameIndex := 5, descriptorIndex := 6, attributes := #[] }, { accessFlags := 16409, nameIndex := 9, descriptorIndex := 6, attributes := #[] }, { accessFlags := 16409, nameIndex := 12, descriptorIndex := 6, attributes := #[] }, { accessFlags := 18, nameIndex := 34, descriptorIndex := 35, attributes := #[] }, { accessFlags := 18, nameIndex := 38, descriptorIndex := 35, attributes := #[] }, { accessFlags := 4122, nameIndex := 15, descriptorIndex := 16, attributes := #[] }])
  fields := #[{ name := "DIRECT", type := (.object "com/example/tuikuan/tuikuan/Channel"), accessFlags := 16409, slot := 0, constantValue := 0 }, { name := "GATEWAY", type := (.object "com/example/tuikuan/tuikuan/Channel"), accessFlags := 16409, slot := 1, constantValue := 0 }, { name := "TRADE", type := (.object "com/example/tuikuan/tuikuan/Channel"), accessFlags := 16409, slot := 2, constantValue := 0 }, { name := "fieldValue", type := (.object "java/lang/String"), accessFlags := 18, slot := 3, constantValue := 0 }, { name := "carrier", type := (.object "java/lang/String"), accessFlags := 18, slot := 4, constantValue := 0 }, { name := "$VALUES", type := (.array (.object "com/example/tuikuan/tuikuan/Channel")), accessFlags := 4122, slot := 3, constantValue := 0 }]
  methods := #[k10m0, k10m1, k10m2]
  instanceTypes := #[(.object "java/lang/String"), .int, .int, (.object "java/lang/String"), (.object "java/lang/String")]
  staticTypes := #[(.object "com/example/tuikuan/tuikuan/Channel"), (.object "com/example/tuikuan/tuikuan/Channel"), (.object "com/example/tuikuan/tuikuan/Channel"), (.array (.object "com/example/tuikuan/tuikuan/Channel"))]
  resolved := Array.replicate 96 none
  statics := some 1 }

def pool11 : Array CpInfo := pool [(1, .fieldref 2 3), (0, .class_ 4), (0, .nameAndType 5 6), (0, u "java/util/Optional"), (0, u "EMPTY"), (0, u "Ljava/util/Optional;"), (0, .methodref 8 9), (0, .class_ 10), (0, .nameAndType 11 12), (0, u "java/lang/Object"), (0, u "<init>"), (0, u "()V"), (0, .fieldref 2 14), (0, .nameAndType 15 16), (0, u "value"), (0, u "Ljava/lang/Object;"), (0, .methodref 18 19), (0, .class_ 20), (0, .nameAndType 21 22), (0, u "java/util/Objects"), (0, u "requireNonNull"), (0, u "(Ljava/lang/Object;)Ljava/lang/Object;"), (0, .methodref 2 24), (0, .nameAndType 11 25), (0, u "(Ljava/lang/Object;)V"), (20, u "()Z"), (8, u "empty"), (0, u "()Ljava/util/Optional;"), (8, u "(Ljava/lang/Object;)Ljava/util/Optional;"), (2, u "isPresent"), (4, u "get"), (0, u "()Ljava/lang/Object;"), (7, u "of")] 104

def k11c0 : Code := { maxStack := 1, maxLocals := 1, code := jdk_32_method_1_code, exceptionTable := #[], attributes := #[] }
def k11m0 : Method := { name := "empty", desc := "()Ljava/util/Optional;", sig := { parameters := [], returnType := some (.object "java/util/Optional") }, accessFlags := 9, code := some k11c0 }
def k11c1 : Code := { maxStack := 2, maxLocals := 2, code := jdk_32_method_2_code, exceptionTable := #[], attributes := #[] }
def k11m1 : Method := { name := "<init>", desc := "(Ljava/lang/Object;)V", sig := { parameters := [(.object "java/lang/Object")], returnType := none }, accessFlags := 2, code := some k11c1 }
def k11c2 : Code := { maxStack := 3, maxLocals := 1, code := jdk_32_method_3_code, exceptionTable := #[], attributes := #[] }
def k11m2 : Method := { name := "of", desc := "(Ljava/lang/Object;)Ljava/util/Optional;", sig := { parameters := [(.object "java/lang/Object")], returnType := some (.object "java/util/Optional") }, accessFlags := 9, code := some k11c2 }
def k11c3 : Code := { maxStack := 3, maxLocals := 1, code := jdk_32_method_5_code, exceptionTable := #[], attributes := #[] }
def k11m3 : Method := { name := "get", desc := "()Ljava/lang/Object;", sig := { parameters := [], returnType := some (.object "java/lang/Object") }, accessFlags := 1, code := some k11c3 }
def k11c4 : Code := { maxStack := 1, maxLocals := 1, code := jdk_32_method_6_code, exceptionTable := #[], attributes := #[] }
def k11m4 : Method := { name := "isPresent", desc := "()Z", sig := { parameters := [], returnType := some .boolean }, accessFlags := 1, code := some k11c4 }
/-- java/util/Optional -/
def k11 : Class := { plain "java/util/Optional" (some 0) with
  accessFlags := 49
  interfaces := #[]
  cf := some (fileOf pool11 2 #[] #[{ accessFlags := 9, nameIndex := 55, descriptorIndex := 56, attributes := #[] }, { accessFlags := 2, nameIndex := 11, descriptorIndex := 25, attributes := #[] }, { accessFlags := 9, nameIndex := 82, descriptorIndex := 65, attributes := #[] }, { accessFlags := 1, nameIndex := 73, descriptorIndex := 74, attributes := #[] }, { accessFlags := 1, nameIndex := 68, descriptorIndex := 46, attributes := #[] }] 49 8 #[] #[{ accessFlags := 26, nameIndex := 5, descriptorIndex := 6, attributes := #[] }, { accessFlags := 18, nameIndex := 15, descriptorIndex := 16, attributes := #[] }])
  fields := #[{ name := "EMPTY", type := (.object "java/util/Optional"), accessFlags := 26, slot := 0, constantValue := 0 }, { name := "value", type := (.object "java/lang/Object"), accessFlags := 18, slot := 0, constantValue := 0 }]
  methods := #[k11m0, k11m1, k11m2, k11m3, k11m4]
  instanceTypes := #[(.object "java/lang/Object")]
  staticTypes := #[(.object "java/util/Optional")]
  resolved := Array.replicate 187 none
  statics := some 2 }

def pool12 : Array CpInfo := pool [(1, .class_ 2), (0, u "java/lang/Cloneable"), (0, .class_ 4), (0, u "java/lang/Object")] 2

/-- java/lang/Cloneable -/
def k12 : Class := { plain "java/lang/Cloneable" (some 0) with
  accessFlags := 1537
  interfaces := #[]
  cf := some (fileOf pool12 1 #[] #[] 1537 3 #[] #[])
  fields := #[]
  methods := #[]
  instanceTypes := #[]
  staticTypes := #[]
  resolved := Array.replicate 7 none
  statics := none }

def pool13 : Array CpInfo := pool [(4, .class_ 6), (1, u "java/lang/Object"), (0, u "<init>"), (0, u "()V"), (5, .class_ 16), (1, u "java/lang/StringLatin1"), (104, u "$assertionsDisabled"), (0, u "Z"), (98, .class_ 223), (1, u "java/lang/StringLatin1$LinesSpliterator"), (57, u "equals"), (0, u "([B[B)Z"), (107, .class_ 391), (0, u "java/lang/StringLatin1$CharsSpliterator")] 3

def k13m0 : Method := { name := "<init>", desc := "()V", sig := { parameters := [], returnType := none }, accessFlags := 0, code := none }
def k13c1 : Code := { maxStack := 3, maxLocals := 3, code := jdk_43_method_13_code, exceptionTable := #[], attributes := #[] }
def k13m1 : Method := { name := "equals", desc := "([B[B)Z", sig := { parameters := [(.array .byte), (.array .byte)], returnType := some .boolean }, accessFlags := 9, code := some k13c1 }
/-- java/lang/StringLatin1 -/
def k13 : Class := { plain "java/lang/StringLatin1" (some 0) with
  accessFlags := 48
  interfaces := #[]
  cf := some (fileOf pool13 14 #[.nestMembers #[390, 221]] #[{ accessFlags := 0, nameIndex := 7, descriptorIndex := 8, attributes := #[] }, { accessFlags := 9, nameIndex := 281, descriptorIndex := 282, attributes := #[] }] 48 4 #[] #[{ accessFlags := 4120, nameIndex := 121, descriptorIndex := 122, attributes := #[] }])
  fields := #[{ name := "$assertionsDisabled", type := .boolean, accessFlags := 4120, slot := 0, constantValue := 0 }]
  methods := #[k13m0, k13m1]
  instanceTypes := #[]
  staticTypes := #[.boolean]
  resolved := Array.replicate 395 none
  statics := none }

def pool14 : Array CpInfo := pool [(2, .class_ 4), (1, u "java/lang/Object"), (0, u "<init>"), (0, u "()V"), (35, .class_ 44), (1, u "java/util/Objects"), (0, u "requireNonNull"), (0, u "(Ljava/lang/Object;)Ljava/lang/Object;")] 137

def k14m0 : Method := { name := "<init>", desc := "()V", sig := { parameters := [], returnType := none }, accessFlags := 2, code := none }
def k14c1 : Code := { maxStack := 2, maxLocals := 1, code := jdk_31_method_10_code, exceptionTable := #[], attributes := #[] }
def k14m1 : Method := { name := "requireNonNull", desc := "(Ljava/lang/Object;)Ljava/lang/Object;", sig := { parameters := [(.object "java/lang/Object")], returnType := some (.object "java/lang/Object") }, accessFlags := 9, code := some k14c1 }
/-- java/util/Objects -/
def k14 : Class := { plain "java/util/Objects" (some 0) with
  accessFlags := 49
  interfaces := #[]
  cf := some (fileOf pool14 42 #[] #[{ accessFlags := 2, nameIndex := 5, descriptorIndex := 6, attributes := #[] }, { accessFlags := 9, nameIndex := 45, descriptorIndex := 46, attributes := #[] }] 49 2 #[] #[])
  fields := #[]
  methods := #[k14m0, k14m1]
  instanceTypes := #[]
  staticTypes := #[]
  resolved := Array.replicate 184 none
  statics := none }

def pool15 : Array CpInfo := pool [(2, .class_ 4), (1, u "java/lang/Object"), (0, u "<init>"), (0, u "()V"), (17, .class_ 26), (1, u "jdk/internal/util/Preconditions"), (28, .class_ 56), (0, u "jdk/internal/util/Preconditions$4"), (57, .class_ 115), (0, u "jdk/internal/util/Preconditions$1"), (7, u "SIOOBE_FORMATTER"), (0, u "Ljava/util/function/BiFunction;"), (0, .class_ 126), (0, u "jdk/internal/util/Preconditions$2"), (3, u "AIOOBE_FORMATTER"), (0, .class_ 132), (0, u "jdk/internal/util/Preconditions$3"), (3, u "IOOBE_FORMATTER")] 57

def k15m0 : Method := { name := "<init>", desc := "()V", sig := { parameters := [], returnType := none }, accessFlags := 1, code := none }
/-- jdk/internal/util/Preconditions -/
def k15 : Class := { plain "jdk/internal/util/Preconditions" (some 0) with
  accessFlags := 33
  interfaces := #[]
  cf := some (fileOf pool15 24 #[.nestMembers #[55, 131, 125, 114]] #[{ accessFlags := 1, nameIndex := 5, descriptorIndex := 6, attributes := #[] }] 33 2 #[] #[{ accessFlags := 25, nameIndex := 123, descriptorIndex := 124, attributes := #[] }, { accessFlags := 25, nameIndex := 130, descriptorIndex := 124, attributes := #[] }, { accessFlags := 25, nameIndex := 136, descriptorIndex := 124, attributes := #[] }])
  fields := #[{ name := "SIOOBE_FORMATTER", type := (.object "java/util/function/BiFunction"), accessFlags := 25, slot := 0, constantValue := 0 }, { name := "AIOOBE_FORMATTER", type := (.object "java/util/function/BiFunction"), accessFlags := 25, slot := 1, constantValue := 0 }, { name := "IOOBE_FORMATTER", type := (.object "java/util/function/BiFunction"), accessFlags := 25, slot := 2, constantValue := 0 }]
  methods := #[k15m0]
  instanceTypes := #[]
  staticTypes := #[(.object "java/util/function/BiFunction"), (.object "java/util/function/BiFunction"), (.object "java/util/function/BiFunction")]
  resolved := Array.replicate 194 none
  statics := some 3 }

def pool16 : Array CpInfo := pool [(9, u "<init>"), (6, .class_ 18), (1, u "java/lang/Object"), (0, u "()V"), (1, .class_ 23), (1, u "jdk/internal/util/ArraysSupport"), (0, u "LOG2_ARRAY_LONG_INDEX_SCALE"), (0, u "I"), (2, u "U"), (0, u "Ljdk/internal/misc/Unsafe;"), (8, u "BIG_ENDIAN"), (0, u "Z"), (8, u "LOG2_BYTE_BIT_SIZE"), (4, u "LOG2_ARRAY_INT_INDEX_SCALE"), (54, u "JLA"), (0, u "Ljdk/internal/access/JavaLangAccess;"), (11, u "LOG2_ARRAY_BOOLEAN_INDEX_SCALE"), (9, u "LOG2_ARRAY_BYTE_INDEX_SCALE"), (5, u "LOG2_ARRAY_CHAR_INDEX_SCALE"), (5, u "LOG2_ARRAY_SHORT_INDEX_SCALE"), (18, u "LOG2_ARRAY_FLOAT_INDEX_SCALE"), (24, u "LOG2_ARRAY_DOUBLE_INDEX_SCALE"), (89, u "T_BOOLEAN"), (2, u "T_CHAR"), (1, u "T_FLOAT"), (1, u "T_DOUBLE"), (1, u "T_BYTE"), (1, u "T_SHORT"), (1, u "T_INT"), (1, u "T_LONG"), (1, u "SOFT_MAX_ARRAY_LENGTH")] 83

def k16m0 : Method := { name := "<init>", desc := "()V", sig := { parameters := [], returnType := none }, accessFlags := 2, code := none }
/-- jdk/internal/util/ArraysSupport -/
def k16 : Class := { plain "jdk/internal/util/ArraysSupport" (some 0) with
  accessFlags := 33
  interfaces := #[]
  cf := some (fileOf pool16 21 #[] #[{ accessFlags := 2, nameIndex := 9, descriptorIndex := 19, attributes := #[] }] 33 16 #[] #[{ accessFlags := 24, nameIndex := 28, descriptorIndex := 29, attributes := #[] }, { accessFlags := 26, nameIndex := 38, descriptorIndex := 39, attributes := #[] }, { accessFlags := 25, nameIndex := 121, descriptorIndex := 25, attributes := #[] }, { accessFlags := 25, nameIndex := 131, descriptorIndex := 25, attributes := #[] }, { accessFlags := 25, nameIndex := 137, descriptorIndex := 25, attributes := #[] }, { accessFlags := 25, nameIndex := 143, descriptorIndex := 25, attributes := #[] }, { accessFlags := 25, nameIndex := 53, descriptorIndex := 25, attributes := #[] }, { accessFlags := 25, nameIndex := 24, descriptorIndex := 25, attributes := #[] }, { accessFlags := 25, nameIndex := 162, descriptorIndex := 25, attributes := #[] }, { accessFlags := 25, nameIndex := 187, descriptorIndex := 25, attributes := #[] }, { accessFlags := 26, nameIndex := 48, descriptorIndex := 25, attributes := #[] }, { accessFlags := 25, nameIndex := 277, descriptorIndex := 25, attributes := #[] }, { accessFlags := 25, nameIndex := 280, descriptorIndex := 25, attributes := #[] }, { accessFlags := 25, nameIndex := 282, descriptorIndex := 25, attributes := #[] }, { accessFlags := 25, nameIndex := 284, descriptorIndex := 25, attributes := #[] }, { accessFlags := 25, nameIndex := 286, descriptorIndex := 25, attributes := #[] }, { accessFlags := 25, nameIndex := 288, descriptorIndex := 25, attributes := #[] }, { accessFlags := 25, nameIndex := 290, descriptorIndex := 25, attributes := #[] }, { accessFlags := 25, nameIndex := 292, descriptorIndex := 25, attributes := #[] }, { accessFlags := 26, nameIndex := 108, descriptorIndex := 109, attributes := #[] }, { accessFlags := 25, nameIndex := 294, descriptorIndex := 25, attributes := #[] }])
  fields := #[{ name := "U", type := (.object "jdk/internal/misc/Unsafe"), accessFlags := 24, slot := 0, constantValue := 0 }, { name := "BIG_ENDIAN", type := .boolean, accessFlags := 26, slot := 1, constantValue := 0 }, { name := "LOG2_ARRAY_BOOLEAN_INDEX_SCALE", type := .int, accessFlags := 25, slot := 2, constantValue := 0 }, { name := "LOG2_ARRAY_BYTE_INDEX_SCALE", type := .int, accessFlags := 25, slot := 3, constantValue := 0 }, { name := "LOG2_ARRAY_CHAR_INDEX_SCALE", type := .int, accessFlags := 25, slot := 4, constantValue := 0 }, { name := "LOG2_ARRAY_SHORT_INDEX_SCALE", type := .int, accessFlags := 25, slot := 5, constantValue := 0 }, { name := "LOG2_ARRAY_INT_INDEX_SCALE", type := .int, accessFlags := 25, slot := 6, constantValue := 0 }, { name := "LOG2_ARRAY_LONG_INDEX_SCALE", type := .int, accessFlags := 25, slot := 7, constantValue := 0 }, { name := "LOG2_ARRAY_FLOAT_INDEX_SCALE", type := .int, accessFlags := 25, slot := 8, constantValue := 0 }, { name := "LOG2_ARRAY_DOUBLE_INDEX_SCALE", type := .int, accessFlags := 25, slot := 9, constantValue := 0 }, { name := "LOG2_BYTE_BIT_SIZE", type := .int, accessFlags := 26, slot := 10, constantValue := 0 }, { name := "T_BOOLEAN", type := .int, accessFlags := 25, slot := 11, constantValue := 0 }, { name := "T_CHAR", type := .int, accessFlags := 25, slot := 12, constantValue := 0 }, { name := "T_FLOAT", type := .int, accessFlags := 25, slot := 13, constantValue := 0 }, { name := "T_DOUBLE", type := .int, accessFlags := 25, slot := 14, constantValue := 0 }, { name := "T_BYTE", type := .int, accessFlags := 25, slot := 15, constantValue := 0 }, { name := "T_SHORT", type := .int, accessFlags := 25, slot := 16, constantValue := 0 }, { name := "T_INT", type := .int, accessFlags := 25, slot := 17, constantValue := 0 }, { name := "T_LONG", type := .int, accessFlags := 25, slot := 18, constantValue := 0 }, { name := "JLA", type := (.object "jdk/internal/access/JavaLangAccess"), accessFlags := 26, slot := 19, constantValue := 0 }, { name := "SOFT_MAX_ARRAY_LENGTH", type := .int, accessFlags := 25, slot := 20, constantValue := 0 }]
  methods := #[k16m0]
  instanceTypes := #[]
  staticTypes := #[(.object "jdk/internal/misc/Unsafe"), .boolean, .int, .int, .int, .int, .int, .int, .int, .int, .int, .int, .int, .int, .int, .int, .int, .int, .int, (.object "jdk/internal/access/JavaLangAccess"), .int]
  resolved := Array.replicate 378 none
  statics := none }

/-- the primitive byte -/
def k17 : Class := { plain "byte" none with kind := .primitive 'B', accessFlags := 0x411 }
/-- [B -/
def k18 : Class := { plain "[B" (some 0) with kind := .array 17 .byte, interfaces := #[12, 2], accessFlags := 1041 }

/-- the primitive char -/
def k19 : Class := { plain "char" none with kind := .primitive 'C', accessFlags := 0x411 }
/-- [C -/
def k20 : Class := { plain "[C" (some 0) with kind := .array 19 .char, interfaces := #[12, 2], accessFlags := 1041 }

/-- the primitive int -/
def k21 : Class := { plain "int" none with kind := .primitive 'I', accessFlags := 0x411 }
/-- [I -/
def k22 : Class := { plain "[I" (some 0) with kind := .array 21 .int, interfaces := #[12, 2], accessFlags := 1041 }

/-- [Lcom/example/tuikuan/tuikuan/Channel; -/
def k23 : Class := { plain "[Lcom/example/tuikuan/tuikuan/Channel;" (some 0) with kind := .array 10 (.object "com/example/tuikuan/tuikuan/Channel"), interfaces := #[12, 2], accessFlags := 1041 }

def heap : Heap := #[{ cls := 7, slots := #[.long 0, .int 1, .null, .int 0, .null, .int 0, .int 0], vm := .statics 7 },
  { cls := 10, slots := #[.ref 5, .ref 6, .ref 7, .ref 4], vm := .statics 10 },
  { cls := 11, slots := #[.ref 14], vm := .statics 11 },
  { cls := 15, slots := #[.null, .null, .null], vm := .statics 15 },
  { cls := 23, slots := #[.ref 5, .ref 6, .ref 7], vm := .none },
  { cls := 10, slots := #[.null, .int 0, .int 0, .ref 8, .null], vm := .none },
  { cls := 10, slots := #[.null, .int 1, .int 0, .ref 9, .null], vm := .none },
  { cls := 10, slots := #[.null, .int 2, .int 0, .ref 10, .null], vm := .none },
  { cls := 7, slots := #[.ref 11, .int 0, .int 0, .int 0], vm := .none },
  { cls := 7, slots := #[.ref 12, .int 0, .int 0, .int 0], vm := .none },
  { cls := 7, slots := #[.ref 13, .int 0, .int 0, .int 0], vm := .none },
  { cls := 18, slots := #[.int 100, .int 105, .int 114, .int 101, .int 99, .int 116], vm := .none },
  { cls := 18, slots := #[.int 103, .int 97, .int 116, .int 101, .int 119, .int 97, .int 121], vm := .none },
  { cls := 18, slots := #[.int 116, .int 114, .int 97, .int 100, .int 101], vm := .none },
  { cls := 11, slots := #[.null], vm := .none }]
def classes : Array Class := #[k0, k1, k2, k3, k4, k5, k6, k7, k8, k9, k10, k11, k12, k13, k14, k15, k16, k17, k18, k19, k20, k21, k22, k23]
def interned : List (Array UInt16 × Addr) := []
def slotsUsed : Nat := 64
def theMethod : MethodId := ⟨1, 3⟩
def args0 : Array Value := #[.int 5, .int 5, .int 5, .int 5, .int 5, .int 5]
def aboutOver (below : List Frame) : State where
  vm := { classes := classes, interned := interned.toArray }
  heap := heap
  slotsUsed := slotsUsed
  threads := #[{ frames := .invoking theMethod args0 :: below }]
def below0 : List Frame := [.native { method := ⟨0, 0⟩, args := #[] }]
def about1 : State := aboutOver below0
def p0 : Program := .bare "" "" ""
def e0 : Env := launch0.env 0 0 0
theorem w_frames : about1.frames = Frame.invoking theMethod args0 :: below0 := rfl
set_option maxRecDepth 65536 in
theorem w_args : argsFit about1.vm theMethod args0 = true := by decide +kernel
set_option maxRecDepth 65536 in
theorem w_heap : heapFits about1 = true := by decide +kernel
set_option maxRecDepth 65536 in
theorem w_runnable : about1.curStatus? = some .runnable := by decide +kernel
set_option maxRecDepth 65536 in
theorem w_alone : about1.alone = true := by decide +kernel
set_option maxRecDepth 65536 in
theorem w_named : about1.methodNamed? x = some theMethod := by decide +kernel
set_option maxRecDepth 65536 in
theorem w_hears : about1.hears theMethod below0 = true := by decide +kernel
set_option maxRecDepth 65536 in
theorem w_ripe : about1.ripe theMethod args0 below0 = true := by decide +kernel
theorem w_running : about1.status = .running := rfl
set_option maxRecDepth 65536 in
theorem w_room : about1.hasRoom e0.platform room_1 = true :=
  launch0.hasRoom_least _ room_1 (by decide +kernel) (by decide +kernel) (by decide +kernel) (by decide +kernel) (by decide +kernel) (by decide +kernel)
theorem allAtoms_all (ts : List Jvm.Cond) (a : Array Jvm.Value) (st : Jvm.State) : (allAtoms ts).before a st = ts.all (fun c => c.before a st) := by
  induction ts with
  | nil => rfl
  | cons c t ih =>
    show (Jvm.Cond.and c (allAtoms t)).before a st = _
    rw [Jvm.Cond.before_and, ih, List.all_cons]
def words1 : List Jvm.Cond := Jvm.Cond.code x code maxLocals ret :: tables_1
/-- a 'code' word, met by the world's own term for the bytes: nothing is compared byte by byte -/
theorem code_word {y : MethodName} {bytes : ByteArray} {mx : Nat} {rt : Option FieldType} {a : Array Value} {s : State} {m : MethodId} {meth : Method} {c : Code} (h1 : s.methodNamed? y = some m) (h2 : s.vm.method? m = some meth) (h3 : meth.code = some c) (h4 : c.code = bytes)
    (h5 : (c.maxLocals == mx && c.exceptionTable.isEmpty && decide (c.maxStack ≤ mostOperands) && decide (meth.sig.returnType = rt) && !meth.locks && decide (parseMethodDescriptor y.desc = some meth.sig)) = true) : (Jvm.Cond.code y bytes mx rt).before a s = true := by
  simp only [Bool.and_eq_true, beq_iff_eq, Bool.not_eq_true', decide_eq_true_eq] at h5
  obtain ⟨⟨⟨⟨⟨g1, g2⟩, g3⟩, g4⟩, g5⟩, g6⟩ := h5
  simp [Cond.before, Cond.holds, Cond.value, h1, h2, h3, h4, g1, g2, g3, g4, g5, g6]
def isCode : Jvm.Cond → Bool
  | .code _ _ _ _ => true
  | _ => false
theorem all_split {L : List Jvm.Cond} {P : Jvm.Cond → Bool} (h1 : L.all (fun c => isCode c || P c) = true) (h2 : ∀ c ∈ L.filter isCode, P c = true) : L.all P = true := by
  refine List.all_eq_true.mpr fun c hc => ?_
  have h := List.all_eq_true.mp h1 c hc
  rcases Bool.eq_false_or_eq_true (isCode c) with hi | hi
  · exact h2 c (List.mem_filter.mpr ⟨hc, hi⟩)
  · simpa [hi] using h
set_option maxRecDepth 65536 in
theorem w_c0 : (Jvm.Cond.code x code maxLocals ret).before args0 about1 = true := code_word (m := ⟨1, 3⟩) (meth := k1m3) (c := k1c3) (by decide +kernel) rfl rfl rfl (by decide +kernel)
set_option maxRecDepth 65536 in
theorem w_c1 : (Jvm.Cond.code ({ cls := "com/example/tuikuan/tuikuan/ChannelNamedPinLaw", name := "b", desc := "(II)C" } : Jvm.MethodName) method_2_code (2 : Nat) (Option.some Jvm.ClassFile.FieldType.char)).before args0 about1 = true := code_word (m := ⟨1, 1⟩) (meth := k1m1) (c := k1c1) (by decide +kernel) rfl rfl rfl (by decide +kernel)
set_option maxRecDepth 65536 in
theorem w_c2 : (Jvm.Cond.code ({ cls := "com/example/tuikuan/tuikuan/ChannelNamedPinLaw", name := "mk", desc := "([CI)Ljava/lang/String;" } : Jvm.MethodName) method_3_code (2 : Nat) (Option.some (Jvm.ClassFile.FieldType.object "java/lang/String"))).before args0 about1 = true := code_word (m := ⟨1, 2⟩) (meth := k1m2) (c := k1c2) (by decide +kernel) rfl rfl rfl (by decide +kernel)
set_option maxRecDepth 65536 in
theorem w_c3 : (Jvm.Cond.code ({ cls := "java/lang/String", name := "<init>", desc := "([C)V" } : Jvm.MethodName) jdk_42_method_3_code (2 : Nat) (Option.none : Option Jvm.ClassFile.FieldType)).before args0 about1 = true := code_word (m := ⟨7, 1⟩) (meth := k7m1) (c := k7c1) (by decide +kernel) rfl rfl rfl (by decide +kernel)
set_option maxRecDepth 65536 in
theorem w_c4 : (Jvm.Cond.code ({ cls := "java/lang/String", name := "<init>", desc := "([CIILjava/lang/Void;)V" } : Jvm.MethodName) jdk_42_method_149_code (6 : Nat) (Option.none : Option Jvm.ClassFile.FieldType)).before args0 about1 = true := code_word (m := ⟨7, 3⟩) (meth := k7m3) (c := k7c3) (by decide +kernel) rfl rfl rfl (by decide +kernel)
set_option maxRecDepth 65536 in
theorem w_c5 : (Jvm.Cond.code ({ cls := "java/lang/Object", name := "<init>", desc := "()V" } : Jvm.MethodName) object_method_1_code (1 : Nat) (Option.none : Option Jvm.ClassFile.FieldType)).before args0 about1 = true := code_word (m := ⟨0, 0⟩) (meth := k0m0) (c := k0c0) (by decide +kernel) rfl rfl rfl (by decide +kernel)
set_option maxRecDepth 65536 in
theorem w_c6 : (Jvm.Cond.code ({ cls := "java/lang/StringUTF16", name := "compress", desc := "([CII)[B" } : Jvm.MethodName) jdk_52_method_16_code (6 : Nat) (Option.some (Jvm.ClassFile.FieldType.array Jvm.ClassFile.FieldType.byte))).before args0 about1 = true := code_word (m := ⟨8, 2⟩) (meth := k8m2) (c := k8c2) (by decide +kernel) rfl rfl rfl (by decide +kernel)
set_option maxRecDepth 65536 in
theorem w_c7 : (Jvm.Cond.code ({ cls := "java/lang/StringUTF16", name := "compress", desc := "([CI[BII)I" } : Jvm.MethodName) jdk_52_method_21_code (7 : Nat) (Option.some Jvm.ClassFile.FieldType.int)).before args0 about1 = true := code_word (m := ⟨8, 3⟩) (meth := k8m3) (c := k8c3) (by decide +kernel) rfl rfl rfl (by decide +kernel)
set_option maxRecDepth 65536 in
theorem w_c8 : (Jvm.Cond.code ({ cls := "java/lang/StringUTF16", name := "coderFromArrayLen", desc := "([BI)B" } : Jvm.MethodName) jdk_52_method_15_code (2 : Nat) (Option.some Jvm.ClassFile.FieldType.byte)).before args0 about1 = true := code_word (m := ⟨8, 1⟩) (meth := k8m1) (c := k8c1) (by decide +kernel) rfl rfl rfl (by decide +kernel)
set_option maxRecDepth 65536 in
theorem w_c9 : (Jvm.Cond.code ({ cls := "com/example/tuikuan/tuikuan/Channel", name := "named", desc := "(Ljava/lang/String;)Ljava/util/Optional;" } : Jvm.MethodName) prog_2_method_6_code (6 : Nat) (Option.some (Jvm.ClassFile.FieldType.object "java/util/Optional"))).before args0 about1 = true := code_word (m := ⟨10, 2⟩) (meth := k10m2) (c := k10c2) (by decide +kernel) rfl rfl rfl (by decide +kernel)
set_option maxRecDepth 65536 in
theorem w_c10 : (Jvm.Cond.code ({ cls := "java/util/Optional", name := "empty", desc := "()Ljava/util/Optional;" } : Jvm.MethodName) jdk_32_method_1_code (1 : Nat) (Option.some (Jvm.ClassFile.FieldType.object "java/util/Optional"))).before args0 about1 = true := code_word (m := ⟨11, 0⟩) (meth := k11m0) (c := k11c0) (by decide +kernel) rfl rfl rfl (by decide +kernel)
set_option maxRecDepth 65536 in
theorem w_c11 : (Jvm.Cond.code ({ cls := "com/example/tuikuan/tuikuan/Channel", name := "values", desc := "()[Lcom/example/tuikuan/tuikuan/Channel;" } : Jvm.MethodName) prog_2_method_1_code (0 : Nat) (Option.some (Jvm.ClassFile.FieldType.array (Jvm.ClassFile.FieldType.object "com/example/tuikuan/tuikuan/Channel")))).before args0 about1 = true := code_word (m := ⟨10, 0⟩) (meth := k10m0) (c := k10c0) (by decide +kernel) rfl rfl rfl (by decide +kernel)
set_option maxRecDepth 65536 in
theorem w_c12 : (Jvm.Cond.code ({ cls := "java/lang/String", name := "equals", desc := "(Ljava/lang/Object;)Z" } : Jvm.MethodName) jdk_42_method_66_code (3 : Nat) (Option.some Jvm.ClassFile.FieldType.boolean)).before args0 about1 = true := code_word (m := ⟨7, 2⟩) (meth := k7m2) (c := k7c2) (by decide +kernel) rfl rfl rfl (by decide +kernel)
set_option maxRecDepth 65536 in
theorem w_c13 : (Jvm.Cond.code ({ cls := "java/lang/StringLatin1", name := "equals", desc := "([B[B)Z" } : Jvm.MethodName) jdk_43_method_13_code (3 : Nat) (Option.some Jvm.ClassFile.FieldType.boolean)).before args0 about1 = true := code_word (m := ⟨13, 1⟩) (meth := k13m1) (c := k13c1) (by decide +kernel) rfl rfl rfl (by decide +kernel)
set_option maxRecDepth 65536 in
theorem w_c14 : (Jvm.Cond.code ({ cls := "java/util/Optional", name := "isPresent", desc := "()Z" } : Jvm.MethodName) jdk_32_method_6_code (1 : Nat) (Option.some Jvm.ClassFile.FieldType.boolean)).before args0 about1 = true := code_word (m := ⟨11, 4⟩) (meth := k11m4) (c := k11c4) (by decide +kernel) rfl rfl rfl (by decide +kernel)
set_option maxRecDepth 65536 in
theorem w_c15 : (Jvm.Cond.code ({ cls := "java/util/Optional", name := "of", desc := "(Ljava/lang/Object;)Ljava/util/Optional;" } : Jvm.MethodName) jdk_32_method_3_code (1 : Nat) (Option.some (Jvm.ClassFile.FieldType.object "java/util/Optional"))).before args0 about1 = true := code_word (m := ⟨11, 2⟩) (meth := k11m2) (c := k11c2) (by decide +kernel) rfl rfl rfl (by decide +kernel)
set_option maxRecDepth 65536 in
theorem w_c16 : (Jvm.Cond.code ({ cls := "java/util/Objects", name := "requireNonNull", desc := "(Ljava/lang/Object;)Ljava/lang/Object;" } : Jvm.MethodName) jdk_31_method_10_code (1 : Nat) (Option.some (Jvm.ClassFile.FieldType.object "java/lang/Object"))).before args0 about1 = true := code_word (m := ⟨14, 1⟩) (meth := k14m1) (c := k14c1) (by decide +kernel) rfl rfl rfl (by decide +kernel)
set_option maxRecDepth 65536 in
theorem w_c17 : (Jvm.Cond.code ({ cls := "java/util/Optional", name := "<init>", desc := "(Ljava/lang/Object;)V" } : Jvm.MethodName) jdk_32_method_2_code (2 : Nat) (Option.none : Option Jvm.ClassFile.FieldType)).before args0 about1 = true := code_word (m := ⟨11, 1⟩) (meth := k11m1) (c := k11c1) (by decide +kernel) rfl rfl rfl (by decide +kernel)
set_option maxRecDepth 65536 in
theorem w_c18 : (Jvm.Cond.code ({ cls := "java/util/Optional", name := "get", desc := "()Ljava/lang/Object;" } : Jvm.MethodName) jdk_32_method_5_code (1 : Nat) (Option.some (Jvm.ClassFile.FieldType.object "java/lang/Object"))).before args0 about1 = true := code_word (m := ⟨11, 3⟩) (meth := k11m3) (c := k11c3) (by decide +kernel) rfl rfl rfl (by decide +kernel)
set_option maxRecDepth 65536 in
theorem w_c19 : (Jvm.Cond.code ({ cls := "com/example/tuikuan/tuikuan/Channel", name := "fieldValue", desc := "()Ljava/lang/String;" } : Jvm.MethodName) prog_2_method_4_code (1 : Nat) (Option.some (Jvm.ClassFile.FieldType.object "java/lang/String"))).before args0 about1 = true := code_word (m := ⟨10, 1⟩) (meth := k10m1) (c := k10c1) (by decide +kernel) rfl rfl rfl (by decide +kernel)
def codes1 : List Jvm.Cond := [Jvm.Cond.code x code maxLocals ret, Jvm.Cond.code ({ cls := "com/example/tuikuan/tuikuan/ChannelNamedPinLaw", name := "b", desc := "(II)C" } : Jvm.MethodName) method_2_code (2 : Nat) (Option.some Jvm.ClassFile.FieldType.char), Jvm.Cond.code ({ cls := "com/example/tuikuan/tuikuan/ChannelNamedPinLaw", name := "mk", desc := "([CI)Ljava/lang/String;" } : Jvm.MethodName) method_3_code (2 : Nat) (Option.some (Jvm.ClassFile.FieldType.object "java/lang/String")), Jvm.Cond.code ({ cls := "java/lang/String", name := "<init>", desc := "([C)V" } : Jvm.MethodName) jdk_42_method_3_code (2 : Nat) (Option.none : Option Jvm.ClassFile.FieldType), Jvm.Cond.code ({ cls := "java/lang/String", name := "<init>", desc := "([CIILjava/lang/Void;)V" } : Jvm.MethodName) jdk_42_method_149_code (6 : Nat) (Option.none : Option Jvm.ClassFile.FieldType), Jvm.Cond.code ({ cls := "java/lang/Object", name := "<init>", desc := "()V" } : Jvm.MethodName) object_method_1_code (1 : Nat) (Option.none : Option Jvm.ClassFile.FieldType), Jvm.Cond.code ({ cls := "java/lang/StringUTF16", name := "compress", desc := "([CII)[B" } : Jvm.MethodName) jdk_52_method_16_code (6 : Nat) (Option.some (Jvm.ClassFile.FieldType.array Jvm.ClassFile.FieldType.byte)), Jvm.Cond.code ({ cls := "java/lang/StringUTF16", name := "compress", desc := "([CI[BII)I" } : Jvm.MethodName) jdk_52_method_21_code (7 : Nat) (Option.some Jvm.ClassFile.FieldType.int), Jvm.Cond.code ({ cls := "java/lang/StringUTF16", name := "coderFromArrayLen", desc := "([BI)B" } : Jvm.MethodName) jdk_52_method_15_code (2 : Nat) (Option.some Jvm.ClassFile.FieldType.byte), Jvm.Cond.code ({ cls := "com/example/tuikuan/tuikuan/Channel", name := "named", desc := "(Ljava/lang/String;)Ljava/util/Optional;" } : Jvm.MethodName) prog_2_method_6_code (6 : Nat) (Option.some (Jvm.ClassFile.FieldType.object "java/util/Optional")), Jvm.Cond.code ({ cls := "java/util/Optional", name := "empty", desc := "()Ljava/util/Optional;" } : Jvm.MethodName) jdk_32_method_1_code (1 : Nat) (Option.some (Jvm.ClassFile.FieldType.object "java/util/Optional")), Jvm.Cond.code ({ cls := "com/example/tuikuan/tuikuan/Channel", name := "values", desc := "()[Lcom/example/tuikuan/tuikuan/Channel;" } : Jvm.MethodName) prog_2_method_1_code (0 : Nat) (Option.some (Jvm.ClassFile.FieldType.array (Jvm.ClassFile.FieldType.object "com/example/tuikuan/tuikuan/Channel"))), Jvm.Cond.code ({ cls := "java/lang/String", name := "equals", desc := "(Ljava/lang/Object;)Z" } : Jvm.MethodName) jdk_42_method_66_code (3 : Nat) (Option.some Jvm.ClassFile.FieldType.boolean), Jvm.Cond.code ({ cls := "java/lang/StringLatin1", name := "equals", desc := "([B[B)Z" } : Jvm.MethodName) jdk_43_method_13_code (3 : Nat) (Option.some Jvm.ClassFile.FieldType.boolean), Jvm.Cond.code ({ cls := "java/util/Optional", name := "isPresent", desc := "()Z" } : Jvm.MethodName) jdk_32_method_6_code (1 : Nat) (Option.some Jvm.ClassFile.FieldType.boolean), Jvm.Cond.code ({ cls := "java/util/Optional", name := "of", desc := "(Ljava/lang/Object;)Ljava/util/Optional;" } : Jvm.MethodName) jdk_32_method_3_code (1 : Nat) (Option.some (Jvm.ClassFile.FieldType.object "java/util/Optional")), Jvm.Cond.code ({ cls := "java/util/Objects", name := "requireNonNull", desc := "(Ljava/lang/Object;)Ljava/lang/Object;" } : Jvm.MethodName) jdk_31_method_10_code (1 : Nat) (Option.some (Jvm.ClassFile.FieldType.object "java/lang/Object")), Jvm.Cond.code ({ cls := "java/util/Optional", name := "<init>", desc := "(Ljava/lang/Object;)V" } : Jvm.MethodName) jdk_32_method_2_code (2 : Nat) (Option.none : Option Jvm.ClassFile.FieldType), Jvm.Cond.code ({ cls := "java/util/Optional", name := "get", desc := "()Ljava/lang/Object;" } : Jvm.MethodName) jdk_32_method_5_code (1 : Nat) (Option.some (Jvm.ClassFile.FieldType.object "java/lang/Object")), Jvm.Cond.code ({ cls := "com/example/tuikuan/tuikuan/Channel", name := "fieldValue", desc := "()Ljava/lang/String;" } : Jvm.MethodName) prog_2_method_4_code (1 : Nat) (Option.some (Jvm.ClassFile.FieldType.object "java/lang/String"))]
set_option maxRecDepth 65536 in
theorem codes_eq : words1.filter isCode = codes1 := rfl
theorem w_codes : ∀ c ∈ words1.filter isCode, c.before args0 about1 = true := by
  rw [codes_eq]
  intro c hc
  simp only [codes1, List.mem_cons, List.not_mem_nil, or_false] at hc
  rcases hc with rfl | rfl | rfl | rfl | rfl | rfl | rfl | rfl | rfl | rfl | rfl | rfl | rfl | rfl | rfl | rfl | rfl | rfl | rfl | rfl
  · exact w_c0
  · exact w_c1
  · exact w_c2
  · exact w_c3
  · exact w_c4
  · exact w_c5
  · exact w_c6
  · exact w_c7
  · exact w_c8
  · exact w_c9
  · exact w_c10
  · exact w_c11
  · exact w_c12
  · exact w_c13
  · exact w_c14
  · exact w_c15
  · exact w_c16
  · exact w_c17
  · exact w_c18
  · exact w_c19
set_option maxRecDepth 65536 in
theorem w_t1 : (words1.take 24).all (fun c => isCode c || c.before args0 about1) = true := by decide +kernel
set_option maxRecDepth 65536 in
theorem w_t2 : ((words1.drop 24).take 24).all (fun c => isCode c || c.before args0 about1) = true := by decide +kernel
set_option maxRecDepth 65536 in
theorem w_t3 : (((words1.drop 24).drop 24).take 24).all (fun c => isCode c || c.before args0 about1) = true := by decide +kernel
set_option maxRecDepth 65536 in
theorem w_t4 : ((((words1.drop 24).drop 24).drop 24).take 24).all (fun c => isCode c || c.before args0 about1) = true := by decide +kernel
set_option maxRecDepth 65536 in
theorem w_t5 : ((((words1.drop 24).drop 24).drop 24).drop 24).all (fun c => isCode c || c.before args0 about1) = true := by decide +kernel
theorem w_tables : (allAtoms (Jvm.Cond.code x code maxLocals ret :: tables_1)).before args0 about1 = true := by
  rw [allAtoms_all]
  show words1.all (fun c => c.before args0 about1) = true
  refine all_split ?_ w_codes
  rw [← List.take_append_drop 24 words1, List.all_append, w_t1, ← List.take_append_drop 24 (words1.drop 24), List.all_append, w_t2, ← List.take_append_drop 24 ((words1.drop 24).drop 24), List.all_append, w_t3, ← List.take_append_drop 24 (((words1.drop 24).drop 24).drop 24), List.all_append, w_t4, w_t5]
  rfl
set_option maxRecDepth 65536 in
theorem w_rest : rest_1_c.before args0 about1 = true := by decide +kernel
set_option maxRecDepth 65536 in
theorem w_case : (Jvm.Cond.and given_1 narrow_1).before args0 about1 = true := by decide +kernel
set_option maxRecDepth 65536 in
theorem w_consts : constsHeld consts_1 about1 := Jvm.Lit.constsHeldB_iff.mp (by decide +kernel)
theorem w_applies : (headSpec (Jvm.Cond.code x code maxLocals ret :: tables_1) room_1).applies x e0.platform about1 = true :=
  (Spec.applies_iff w_frames).mpr ⟨w_running, w_runnable, w_alone, w_named, w_hears, w_ripe, w_room, w_tables⟩
theorem atStart : AtStart classFile x code maxLocals ret World_1 tables_1 room_1 Calls_1 rest_1 Pre_1 launch0 p0 e0 about1 theMethod args0 below0 :=
  ⟨lists_1, trivial, launch0.admits_env _ _ _, launch0.least_env, fairChoices_fair.cas, fairChoices_fair.clock, w_frames, w_args, w_heap, w_applies, ⟨w_consts, trivial⟩, w_rest, w_case⟩
end start1
theorem witness_1 : WitnessClaimed_1 := ⟨start1.p0, start1.e0, start1.about1, start1.theMethod, start1.args0, start1.below0, start1.atStart⟩
end Jvm.Pilot.@@N@@
