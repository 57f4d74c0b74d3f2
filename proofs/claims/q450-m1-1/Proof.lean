import JvmDerived
import JvmDerived.Pilot.@@N@@Statement
import JvmDerived.Pilot.@@N@@Code
set_option linter.unusedVariables false
set_option linter.unusedSimpArgs false

/- laws to paste: Road.backV, Road.eqW, Road.codOf (cut by pick.py; bodies as the Statement names them) -/
namespace Jvm.Pilot.@@N@@
namespace StrChars
open Jvm Sem ClassFile Op Lib Jvm.Stand Jvm.Free.XT Jvm.Free.ALB Jvm.Free.JM Jvm.Free
open Jvm.Lib.Cold (StaticIs)
/-- a char array whose places are chars -/
def Ch (a : Addr) (A : Cell) (U : State) : Prop := Arr .char a A U ∧ Typed .char A
theorem Ch.mv {a : Addr} {A : Cell} {U U' : State} (h : Ch a A U) (hal : U.vm.Alike U'.vm) (hh : U'.heap = U.heap) : Ch a A U' := ⟨h.1.mv hal hh, h.2⟩
theorem Ch.keep {a : Addr} {A : Cell} {U U' : State} (h : Ch a A U) (hal : U.vm.Alike U'.vm) (hk : U'.heap[a]? = some A) : Ch a A U' := ⟨h.1.keep hal hk, h.2⟩
/-- what place i of a char[]'s cell holds -/
def cv (A : Cell) (i : Nat) : Int32 := match A.slots[i]? with | some (.int x) => x | _ => 0
theorem Ch.get {a : Addr} {A : Cell} {U : State} (h : Ch a A U) {i : Nat} (hi : i < A.slots.size) : A.slots[i]? = some (.int (cv A i)) := by
  have e := Array.getElem?_eq_getElem hi
  have f := h.2 i _ e
  unfold cv; rw [e]
  generalize A.slots[i] = v at f
  cases v <;> simp [fits] at f ⊢
/-- the byte that i2b leaves of a char -/
def lo8 (x : Int32) : Int32 := x.toInt8.toInt32
theorem fits_lo8 (y : Int32) : fits .byte (.int (lo8 y)) = true := by
  have h1 := y.toInt8.le_toInt
  have h2 := y.toInt8.toInt_lt
  simp only [lo8, fits, Bool.and_eq_true, decide_eq_true_eq, Int32.le_iff_toInt_le, Int8.toInt_toInt32, show (-128 : Int32).toInt = -128 from by decide, show (127 : Int32).toInt = 127 from by decide]
  omega
/-- A' is A but that each place j of lo .. hi - 1 holds f j -/
def Laid (A A' : Cell) (lo hi : Nat) (f : Nat → Value) : Prop := A'.cls = A.cls ∧ A'.vm = A.vm ∧ A'.slots.size = A.slots.size ∧ ∀ i, A'.slots[i]? = if lo ≤ i ∧ i < hi then some (f i) else A.slots[i]?
theorem Laid.zero (A : Cell) (lo : Nat) (f : Nat → Value) : Laid A A lo (lo + 0) f := ⟨rfl, rfl, rfl, fun i => by rw [if_neg (by omega)]⟩
theorem Laid.step {A Ak : Cell} {lo k : Nat} {f : Nat → Value} {v : Value} (h : Laid A Ak lo k f) (hlo : lo ≤ k) (hk : k < Ak.slots.size) (hv : v = f k) : Laid A (Ak.setSlot k v) lo (k + 1) f := by
  refine ⟨h.1, h.2.1, by simpa [Cell.setSlot] using h.2.2.1, fun i => ?_⟩
  by_cases e : k = i
  · subst e; rw [Cell.slots_setSlot_self v hk, if_pos (by omega), hv]
  · rw [Cell.slots_setSlot_ne v e, h.2.2.2 i]
    by_cases q : lo ≤ i ∧ i < k
    · rw [if_pos q, if_pos (by omega)]
    · rw [if_neg q, if_neg (by omega)]
def U16 : String := "java/lang/StringUTF16"
namespace Cmp5
def yN : MethodName := ⟨"java/lang/StringUTF16", "compress", "([CI[BII)I"⟩
abbrev yB : ByteArray := jdk_52_method_21_code
theorem d0 : decode yB 0 = .ok (.iconst 0, 1) := by decide +kernel
theorem d1 : decode yB 1 = .ok (.istore 5, 2) := by decide +kernel
theorem d3 : decode yB 3 = .ok (.iload 5, 2) := by decide +kernel
theorem d5 : decode yB 5 = .ok (.iload 4, 2) := by decide +kernel
theorem d7 : decode yB 7 = .ok (.if_icmp (.ge) 37, 3) := by decide +kernel
theorem d10 : decode yB 10 = .ok (.aload_n 0, 1) := by decide +kernel
theorem d11 : decode yB 11 = .ok (.iload_n 1, 1) := by decide +kernel
theorem d12 : decode yB 12 = .ok (.caload, 1) := by decide +kernel
theorem d13 : decode yB 13 = .ok (.istore 6, 2) := by decide +kernel
theorem d15 : decode yB 15 = .ok (.iload 6, 2) := by decide +kernel
theorem d17 : decode yB 17 = .ok (.sipush 255, 3) := by decide +kernel
theorem d20 : decode yB 20 = .ok (.if_icmp (.le) 6, 3) := by decide +kernel
theorem d26 : decode yB 26 = .ok (.aload_n 2, 1) := by decide +kernel
theorem d27 : decode yB 27 = .ok (.iload_n 3, 1) := by decide +kernel
theorem d28 : decode yB 28 = .ok (.iload 6, 2) := by decide +kernel
theorem d30 : decode yB 30 = .ok (.i2b, 1) := by decide +kernel
theorem d31 : decode yB 31 = .ok (.bastore, 1) := by decide +kernel
theorem d32 : decode yB 32 = .ok (.iinc 1 1, 3) := by decide +kernel
theorem d35 : decode yB 35 = .ok (.iinc 3 1, 3) := by decide +kernel
theorem d38 : decode yB 38 = .ok (.iinc 5 1, 3) := by decide +kernel
theorem d41 : decode yB 41 = .ok (.goto (-38), 3) := by decide +kernel
theorem d44 : decode yB 44 = .ok (.iload 4, 2) := by decide +kernel
theorem d46 : decode yB 46 = .ok (.ireturn, 1) := by decide +kernel
def site : List Cond := []
def tab : Cond := tabOf yN yB 7 (some .int) site
def P (b : Addr) (A : Cell) (d : Addr) (B : Cell) (o q len : Nat) (args : Array Value) (s : State) : Prop := args = #[.ref b, .int (Int32.ofNat o), .ref d, .int (Int32.ofNat q), .int (Int32.ofNat len)] ∧ Ch b A s ∧ Arr .byte d B s ∧ b ≠ d ∧ o + len ≤ A.slots.size ∧ q + len ≤ B.slots.size ∧ ∀ i, i < len → ¬ 255 < cv A (o + i)
def E (b : Addr) (A : Cell) (d : Addr) (B : Cell) (o q len : Nat) (r : Option Value) (s u : State) : Prop := r = some (.int (Int32.ofNat len)) ∧ ∃ B', Put d B' s u ∧ Laid B B' q (q + len) (fun j => Value.int (lo8 (cv A (o + (j - q)))))
/-- no char of the range above 255: len; the places written hold each char's low byte -/
theorem law (l : Launch) (b : Addr) (A : Cell) (d : Addr) (B : Cell) (o q len : Nat) : Law l yN 5 5 0 0 yB 7 (some .int) site (P b A d B o q len) (E b A d B o q len) (copyLocs d q len) 0 0 := by
  refine Law.of_walk (plainFor_of_name (by decide +kernel)) (by decide +kernel) (by decide +kernel) (by decide) (fun _ _ h => by rw [h.1]; rfl) (fun _ U U' hal hh h => ⟨h.1, h.2.1.mv hal hh, h.2.2.1.mv hal hh, h.2.2.2⟩) (fun r U U' V V' h1 hal h2 h => ⟨h.1, h.2.elim fun B' q => ⟨B', q.1.mv h1 h2, q.2⟩⟩) ?_
  intro p e s m args below meth c s₁ X0 hexec hbytes hml hret hlk hnm hown hh0 W hP
  obtain ⟨rfl, hA, hB, hne, l1, l2, hp⟩ := hP
  have c1 : Steps p.tables e below (s₁.setTop (entryFrame m #[.ref b, .int (Int32.ofNat o), .ref d, .int (Int32.ofNat q), .int (Int32.ofNat len)] 7)) (s₁.setTop (mkF m 0 #[.val (.ref b), .val (.int (Int32.ofNat o)), .val (.ref d), .val (.int (Int32.ofNat q)), .val (.int (Int32.ofNat len)), .unset, .unset] [])) := entry rfl
  have hA0 := hA.1.mv X0.warmed.alike hh0
  have hB0 := hB.mv X0.warmed.alike hh0
  have a31 := hA.1.2.2.2
  have c2 : Steps p.tables e below (s₁.setTop (entryFrame m #[.ref b, .int (Int32.ofNat o), .ref d, .int (Int32.ofNat q), .int (Int32.ofNat len)] 7)) (s₁.setTop (mkF m 3 #[.val (.ref b), .val (.int (Int32.ofNat o)), .val (.ref d), .val (.int (Int32.ofNat q)), .val (.int (Int32.ofNat len)), .val (.int 0), .unset] [])) := c1.trans (by
    refine iconstV X0.here hexec rfl 0 (hb hbytes d0) (by decide) ?_
    refine XS.istore X0.here hexec rfl (hb hbytes d1) rfl rfl ?_
    exact Steps.refl _)
  have loop : ∀ (r i : Nat), i + r = len → ∀ (z : Slot), (z = .unset ∨ ∃ w, z = .val w ∧ w.category = 1) → ∀ (Tl : State) (Bk : Cell), Stand p l e { frames := 0, locals := 0, cells := 0, slots := 0 } s m #[.ref b, .int (Int32.ofNat o), .ref d, .int (Int32.ofNat q), .int (Int32.ofNat len)] below meth c Tl ([] ++ copyLocs d q i) 0 0 → Put d Bk s₁ Tl → Laid B Bk q (q + i) (fun j => Value.int (lo8 (cv A (o + (j - q))))) →
      Steps p.tables e below (s₁.setTop (entryFrame m #[.ref b, .int (Int32.ofNat o), .ref d, .int (Int32.ofNat q), .int (Int32.ofNat len)] 7)) (Tl.setTop (mkF m 3 #[.val (.ref b), .val (.int (Int32.ofNat (o + i))), .val (.ref d), .val (.int (Int32.ofNat (q + i))), .val (.int (Int32.ofNat len)), .val (.int (Int32.ofNat i)), z] [])) → ∃ (T' : State) (B' : Cell) (z' : Slot), Stand p l e { frames := 0, locals := 0, cells := 0, slots := 0 } s m #[.ref b, .int (Int32.ofNat o), .ref d, .int (Int32.ofNat q), .int (Int32.ofNat len)] below meth c T' ([] ++ copyLocs d q len) 0 0 ∧ Put d B' s₁ T' ∧ Laid B B' q (q + len) (fun j => Value.int (lo8 (cv A (o + (j - q))))) ∧
      Steps p.tables e below (s₁.setTop (entryFrame m #[.ref b, .int (Int32.ofNat o), .ref d, .int (Int32.ofNat q), .int (Int32.ofNat len)] 7)) (T'.setTop (mkF m 3 #[.val (.ref b), .val (.int (Int32.ofNat (o + len))), .val (.ref d), .val (.int (Int32.ofNat (q + len))), .val (.int (Int32.ofNat len)), .val (.int (Int32.ofNat len)), z'] [])) := by
    intro r
    induction r with
    | zero =>
      intro i hi z hz Tl Bk Xl pl fl cl
      have hil : i = len := by omega
      rw [hil] at Xl fl cl
      exact ⟨Tl, Bk, z, Xl, pl, fl, cl⟩
    | succ r ih =>
      intro i hi z hz Tl Bk Xl pl fl cl
      have all := X0.warmed.alike.symm.trans Xl.warmed.alike
      have hAl := hA0.keep all (pl.other hne hA0.1)
      have hBk := hB0.like all pl.1 fl.1 fl.2.1 fl.2.2.1
      have hlt : q + i < Bk.slots.size := by rw [fl.2.2.1]; omega
      have c3 : Steps p.tables e below (s₁.setTop (entryFrame m #[.ref b, .int (Int32.ofNat o), .ref d, .int (Int32.ofNat q), .int (Int32.ofNat len)] 7)) (Tl.setTop (mkF m 12 #[.val (.ref b), .val (.int (Int32.ofNat (o + i))), .val (.ref d), .val (.int (Int32.ofNat (q + i))), .val (.int (Int32.ofNat len)), .val (.int (Int32.ofNat i)), z] [.int (Int32.ofNat (o + i)), .ref b])) := cl.trans (by
        refine XS.iload Xl.here hexec rfl (hb hbytes d3) rfl ?_
        refine XS.iload Xl.here hexec rfl (hb hbytes d5) rfl ?_
        refine XS.icmpNo Xl.here hexec rfl (hb hbytes d7) rfl (ii_ge_f (lt32 (by omega) (by omega))) ?_
        refine XS.aloadN Xl.here hexec rfl (hb hbytes d10) rfl rfl ?_
        refine XS.iloadN Xl.here hexec rfl (hb hbytes d11) rfl ?_
        exact Steps.refl _)
      have c4 : Steps p.tables e below (s₁.setTop (entryFrame m #[.ref b, .int (Int32.ofNat o), .ref d, .int (Int32.ofNat q), .int (Int32.ofNat len)] 7)) (Tl.setTop (mkF m 13 #[.val (.ref b), .val (.int (Int32.ofNat (o + i))), .val (.ref d), .val (.int (Int32.ofNat (q + i))), .val (.int (Int32.ofNat len)), .val (.int (Int32.ofNat i)), z] [.int (cv A (o + i))])) := c3.trans (by
        refine Xl.aget hexec hAl rfl (hA.get (i := o + i) (by omega)) rfl rfl (hb hbytes d12) ?_
        exact Steps.refl _)
      have c5 : Steps p.tables e below (s₁.setTop (entryFrame m #[.ref b, .int (Int32.ofNat o), .ref d, .int (Int32.ofNat q), .int (Int32.ofNat len)] 7)) (Tl.setTop (mkF m 15 #[.val (.ref b), .val (.int (Int32.ofNat (o + i))), .val (.ref d), .val (.int (Int32.ofNat (q + i))), .val (.int (Int32.ofNat len)), .val (.int (Int32.ofNat i)), .val (.int (cv A (o + i)))] [])) := c4.trans (by
        refine XS.istoreS Xl.here hexec rfl (hb hbytes d13) rfl rfl hz ?_
        exact Steps.refl _)
      have c6 : Steps p.tables e below (s₁.setTop (entryFrame m #[.ref b, .int (Int32.ofNat o), .ref d, .int (Int32.ofNat q), .int (Int32.ofNat len)] 7)) (Tl.setTop (mkF m 31 #[.val (.ref b), .val (.int (Int32.ofNat (o + i))), .val (.ref d), .val (.int (Int32.ofNat (q + i))), .val (.int (Int32.ofNat len)), .val (.int (Int32.ofNat i)), .val (.int (cv A (o + i)))] [.int (lo8 (cv A (o + i))), .int (Int32.ofNat (q + i)), .ref d])) := c5.trans (by
        refine XS.iload Xl.here hexec rfl (hb hbytes d15) rfl ?_
        refine sipushV Xl.here hexec rfl 255 (hb hbytes d17) (by decide) ?_
        refine XS.icmpYes Xl.here hexec rfl (pc0 := 20) rfl (hb hbytes d20) rfl (ii_le_t (hp i (by omega))) (by decide) rfl ?_
        refine XS.aloadN Xl.here hexec rfl (hb hbytes d26) rfl rfl ?_
        refine XS.iloadN Xl.here hexec rfl (hb hbytes d27) rfl ?_
        refine XS.iload Xl.here hexec rfl (hb hbytes d28) rfl ?_
        refine i2b Xl.here hexec rfl (hb hbytes d30) rfl ?_
        exact Steps.refl _)
      obtain ⟨T7, X7, p7, st7⟩ := Xl.aput hexec hBk rfl hlt rfl (fits_lo8 (cv A (o + i))) (g := (mkF m 31 #[.val (.ref b), .val (.int (Int32.ofNat (o + i))), .val (.ref d), .val (.int (Int32.ofNat (q + i))), .val (.int (Int32.ofNat len)), .val (.int (Int32.ofNat i)), .val (.int (cv A (o + i)))] [.int (lo8 (cv A (o + i))), .int (Int32.ofNat (q + i)), .ref d])) rfl (rest := []) rfl (hb hbytes d31)
      have c8 : Steps p.tables e below (s₁.setTop (entryFrame m #[.ref b, .int (Int32.ofNat o), .ref d, .int (Int32.ofNat q), .int (Int32.ofNat len)] 7)) (T7.setTop (mkF m 32 #[.val (.ref b), .val (.int (Int32.ofNat (o + i))), .val (.ref d), .val (.int (Int32.ofNat (q + i))), .val (.int (Int32.ofNat len)), .val (.int (Int32.ofNat i)), .val (.int (cv A (o + i)))] [])) := c6.trans (st7 _ (Steps.refl _))
      have c9 : Steps p.tables e below (s₁.setTop (entryFrame m #[.ref b, .int (Int32.ofNat o), .ref d, .int (Int32.ofNat q), .int (Int32.ofNat len)] 7)) (T7.setTop (mkF m 3 #[.val (.ref b), .val (.int (Int32.ofNat (o + i) + 1)), .val (.ref d), .val (.int (Int32.ofNat (q + i) + 1)), .val (.int (Int32.ofNat len)), .val (.int (Int32.ofNat i + 1)), .val (.int (cv A (o + i)))] [])) := c8.trans (by
        refine iincV X7.here hexec rfl 1 (hb hbytes d32) (by decide) rfl rfl ?_
        refine iincV X7.here hexec rfl 1 (hb hbytes d35) (by decide) rfl rfl ?_
        refine iincV X7.here hexec rfl 1 (hb hbytes d38) (by decide) rfl rfl ?_
        refine XS.goto X7.here hexec rfl (pc0 := 41) rfl (hb hbytes d41) (by decide) rfl ?_
        exact Steps.refl _)
      have c10 : Steps p.tables e below (s₁.setTop (entryFrame m #[.ref b, .int (Int32.ofNat o), .ref d, .int (Int32.ofNat q), .int (Int32.ofNat len)] 7)) (T7.setTop (mkF m 3 #[.val (.ref b), .val (.int (Int32.ofNat (o + (i + 1)))), .val (.ref d), .val (.int (Int32.ofNat (q + (i + 1)))), .val (.int (Int32.ofNat len)), .val (.int (Int32.ofNat (i + 1))), .val (.int (cv A (o + i)))] [])) := by
        have := c9
        rw [succ32, succ32, succ32] at this
        exact this
      exact ih (i + 1) (by omega) _ (Or.inr ⟨_, rfl, rfl⟩) T7 _ (by rw [copyLocs_step, ← List.append_assoc]; exact X7) (pl.trans p7) (fl.step (by omega) hlt (by simp)) c10
  obtain ⟨T9, B9, z9, X9, p9, f9, g9⟩ := loop len 0 (by omega) .unset (Or.inl rfl) s₁ B (by simpa [copyLocs] using X0) ⟨hB0.1, fun _ _ => rfl, rfl⟩ (Laid.zero _ _ _) c2
  have c11 : Steps p.tables e below (s₁.setTop (entryFrame m #[.ref b, .int (Int32.ofNat o), .ref d, .int (Int32.ofNat q), .int (Int32.ofNat len)] 7)) (T9.setTop (mkF m 46 #[.val (.ref b), .val (.int (Int32.ofNat (o + len))), .val (.ref d), .val (.int (Int32.ofNat (q + len))), .val (.int (Int32.ofNat len)), .val (.int (Int32.ofNat len)), z9] [.int (Int32.ofNat len)])) := g9.trans (by
    refine XS.iload X9.here hexec rfl (hb hbytes d3) rfl ?_
    refine XS.iload X9.here hexec rfl (hb hbytes d5) rfl ?_
    refine XS.icmpYes X9.here hexec rfl (pc0 := 7) rfl (hb hbytes d7) rfl (ii_ge_t (nlt32 (by omega) (Nat.le_refl _))) (by decide) rfl ?_
    refine XS.iload X9.here hexec rfl (hb hbytes d44) rfl ?_
    exact Steps.refl _)
  exact ⟨T9, some (.int (Int32.ofNat len)), _, _, _, X9, by simp, rfl, rfl, (fun h => by cases h), ⟨rfl, B9, p9.from hh0, f9⟩, fun fs hl => c11.trans (X9.ireturnOut hexec hret rfl (Or.inl rfl) (hb hbytes d46) hl)⟩
end Cmp5
namespace Cmp3
def yN : MethodName := ⟨"java/lang/StringUTF16", "compress", "([CII)[B"⟩
abbrev yB : ByteArray := jdk_52_method_16_code
theorem d0 : decode yB 0 = .ok (.iload_n 2, 1) := by decide +kernel
theorem d1 : decode yB 1 = .ok (.newarray .byte, 2) := by decide +kernel
theorem d3 : decode yB 3 = .ok (.astore_n 3, 1) := by decide +kernel
theorem d4 : decode yB 4 = .ok (.aload_n 0, 1) := by decide +kernel
theorem d5 : decode yB 5 = .ok (.iload_n 1, 1) := by decide +kernel
theorem d6 : decode yB 6 = .ok (.aload_n 3, 1) := by decide +kernel
theorem d7 : decode yB 7 = .ok (.iconst 0, 1) := by decide +kernel
theorem d8 : decode yB 8 = .ok (.iload_n 2, 1) := by decide +kernel
theorem d9 : decode yB 9 = .ok (.invokestatic 115, 3) := by decide +kernel
theorem d12 : decode yB 12 = .ok (.istore 4, 2) := by decide +kernel
theorem d14 : decode yB 14 = .ok (.iload 4, 2) := by decide +kernel
theorem d16 : decode yB 16 = .ok (.iload_n 2, 1) := by decide +kernel
theorem d17 : decode yB 17 = .ok (.if_icmp (.eq) 40, 3) := by decide +kernel
theorem d57 : decode yB 57 = .ok (.aload_n 3, 1) := by decide +kernel
theorem d58 : decode yB 58 = .ok (.areturn, 1) := by decide +kernel
def site : List Cond := [.arrayClass .byte, Cmp5.tab] ++ staticW U16 115 Cmp5.yN
def tab : Cond := tabOf yN yB 6 (some (.array .byte)) site
def P (b : Addr) (A : Cell) (o len : Nat) (args : Array Value) (s : State) : Prop := args = #[.ref b, .int (Int32.ofNat o), .int (Int32.ofNat len)] ∧ Ch b A s ∧ o + len ≤ A.slots.size ∧ len ≤ 536870912 ∧ ∀ i, i < len → ¬ 255 < cv A (o + i)
def E (b : Addr) (A : Cell) (o len : Nat) (r : Option Value) (s u : State) : Prop := NewArr .byte "[B" len (fun j => .int (lo8 (cv A (o + j)))) r s u ∧ u.heap.size = s.heap.size + 1
/-- no char of the range above 255: a new byte[] of their low bytes -/
theorem law (l : Launch) (b : Addr) (A : Cell) (o len : Nat) : Law l yN 3 3 1 18 yB 6 (some (.array .byte)) site (P b A o len) (E b A o len) [] 1 len := by
  refine Law.of_walk (plainFor_of_name (by decide +kernel)) (by decide +kernel) (by decide +kernel) (by decide) (fun _ _ h => by rw [h.1]; rfl) (fun _ U U' hal hh h => ⟨h.1, h.2.1.mv hal hh, h.2.2⟩) (fun r U U' V V' h1 hal h2 h => ⟨NewArr.mv r U U' V V' h1 hal h2 h.1, by rw [h1, h2]; exact h.2⟩) ?_
  intro p e s m args below meth c s₁ X0 hexec hbytes hml hret hlk hnm hown hh0 W hP
  obtain ⟨rfl, hA, l1, l2, hp⟩ := hP
  have a31 := hA.1.2.2.2
  have c1 : Steps p.tables e below (s₁.setTop (entryFrame m #[.ref b, .int (Int32.ofNat o), .int (Int32.ofNat len)] 6)) (s₁.setTop (mkF m 0 #[.val (.ref b), .val (.int (Int32.ofNat o)), .val (.int (Int32.ofNat len)), .unset, .unset, .unset] [])) := entry rfl
  have c2 : Steps p.tables e below (s₁.setTop (entryFrame m #[.ref b, .int (Int32.ofNat o), .int (Int32.ofNat len)] 6)) (s₁.setTop (mkF m 1 #[.val (.ref b), .val (.int (Int32.ofNat o)), .val (.int (Int32.ofNat len)), .unset, .unset, .unset] [.int (Int32.ofNat len)])) := c1.trans (by
    refine XS.iloadN X0.here hexec rfl (hb hbytes d0) rfl ?_
    exact Steps.refl _)
  obtain ⟨T3, B3, X3, ba3, bs3, bv3, bh3, bf3, st3⟩ := X0.anew hexec (atype := .byte) (wk W (.arrayClass .byte)) rfl (by show len * 1 ≤ _; omega) (by omega) (g := (mkF m 1 #[.val (.ref b), .val (.int (Int32.ofNat o)), .val (.int (Int32.ofNat len)), .unset, .unset, .unset] [.int (Int32.ofNat len)])) rfl (hb hbytes d1) (rest := []) rfl (Nat.le_refl _) (by show 0 + len ≤ len; omega)
  rw [hh0] at ba3 st3
  have kp3 : XT.Kept s T3 := (XT.Kept.of_eq hh0).push bh3
  have hA3 := hA.keep X3.warmed.alike (kp3 _ _ hA.1.1)
  have hne : b ≠ s.heap.size := hA.1.ne
  have c4 : Steps p.tables e below (s₁.setTop (entryFrame m #[.ref b, .int (Int32.ofNat o), .int (Int32.ofNat len)] 6)) (T3.setTop (mkF m 3 #[.val (.ref b), .val (.int (Int32.ofNat o)), .val (.int (Int32.ofNat len)), .unset, .unset, .unset] [.ref s.heap.size])) := c2.trans (st3 _ (Steps.refl _))
  have c5 : Steps p.tables e below (s₁.setTop (entryFrame m #[.ref b, .int (Int32.ofNat o), .int (Int32.ofNat len)] 6)) (T3.setTop (mkF m 9 #[.val (.ref b), .val (.int (Int32.ofNat o)), .val (.int (Int32.ofNat len)), .val (.ref s.heap.size), .unset, .unset] [.int (Int32.ofNat len), .int 0, .ref s.heap.size, .int (Int32.ofNat o), .ref b])) := c4.trans (by
    refine XS.astoreN X3.here hexec rfl (hb hbytes d3) rfl rfl rfl ?_
    refine XS.aloadN X3.here hexec rfl (hb hbytes d4) rfl rfl ?_
    refine XS.iloadN X3.here hexec rfl (hb hbytes d5) rfl ?_
    refine XS.aloadN X3.here hexec rfl (hb hbytes d6) rfl rfl ?_
    refine iconstV X3.here hexec rfl 0 (hb hbytes d7) (by decide) ?_
    refine XS.iloadN X3.here hexec rfl (hb hbytes d8) rfl ?_
    exact Steps.refl _)
  obtain ⟨v6, T6, X6, E6, g6⟩ := X3.callS hexec (Cmp5.law l b A s.heap.size B3 o 0 len) hown (wks W (staticW U16 115 Cmp5.yN)) (wk W Cmp5.tab) (W := 0) (Nat.le_of_ble_eq_true rfl) (Nat.le_of_ble_eq_true rfl) (Nat.le_refl _) (by show 0 + len + 0 ≤ len; omega) (g := (mkF m 9 #[.val (.ref b), .val (.int (Int32.ofNat o)), .val (.int (Int32.ofNat len)), .val (.ref s.heap.size), .unset, .unset] [.int (Int32.ofNat len), .int (Int32.ofNat 0), .ref s.heap.size, .int (Int32.ofNat o), .ref b])) rfl (by rw [hml]; rfl) c5 (argsL := [.ref b, .int (Int32.ofNat o), .ref s.heap.size, .int (Int32.ofNat 0), .int (Int32.ofNat len)]) (rest := []) rfl rfl (by show 2 * 0 + 0 ≤ _; decide) (hb hbytes d9) (⟨rfl, hA3, ba3, hne, l1, by rw [bs3]; simp, hp⟩)
  obtain ⟨rfl, B6, p6, f6⟩ := E6
  have c7 : Steps p.tables e below (s₁.setTop (entryFrame m #[.ref b, .int (Int32.ofNat o), .int (Int32.ofNat len)] 6)) (T6.setTop (mkF m 12 #[.val (.ref b), .val (.int (Int32.ofNat o)), .val (.int (Int32.ofNat len)), .val (.ref s.heap.size), .unset, .unset] [.int (Int32.ofNat len)])) := g6
  have c8 : Steps p.tables e below (s₁.setTop (entryFrame m #[.ref b, .int (Int32.ofNat o), .int (Int32.ofNat len)] 6)) (T6.setTop (mkF m 58 #[.val (.ref b), .val (.int (Int32.ofNat o)), .val (.int (Int32.ofNat len)), .val (.ref s.heap.size), .val (.int (Int32.ofNat len)), .unset] [.ref s.heap.size])) := c7.trans (by
    refine XS.istore X6.here hexec rfl (hb hbytes d12) rfl rfl ?_
    refine XS.iload X6.here hexec rfl (hb hbytes d14) rfl ?_
    refine XS.iloadN X6.here hexec rfl (hb hbytes d16) rfl ?_
    refine XS.icmpYes X6.here hexec rfl (pc0 := 17) rfl (hb hbytes d17) rfl (ii_eq_t rfl) (by decide) rfl ?_
    refine XS.aloadN X6.here hexec rfl (hb hbytes d57) rfl rfl ?_
    exact Steps.refl _)
  have X8 := X6.wide (L' := []) (cells' := 1) (slots' := len) (fun x hx hlt => by
    simp only [List.nil_append, copyLocs, List.mem_map, List.mem_range] at hx
    obtain ⟨i, -, rfl⟩ := hx
    exact absurd hlt (Nat.lt_irrefl _)) (Nat.le_refl _) (by omega)
  exact ⟨T6, some (.ref s.heap.size), _, _, _, X8, rfl, rfl, rfl, (fun h => by cases h), ⟨⟨rfl, B6, ba3.like (X3.warmed.alike.symm.trans X6.warmed.alike) p6.1 f6.1 f6.2.1 f6.2.2.1, f6.2.1.trans bv3, by rw [X6.warmed.alike.findClass, f6.1]; exact bf3, by rw [f6.2.2.1, bs3]; simp, fun j hj => by rw [f6.2.2.2 j, if_pos (by omega)]; rfl, kp3.put p6 (Nat.le_refl _)⟩, by rw [p6.2.2, bh3, hh0]; simp⟩, fun fs hl => c8.trans (X8.areturnOut hexec rfl hret rfl (hb hbytes d58) hl)⟩
end Cmp3
namespace CodL
def yN : MethodName := ⟨"java/lang/StringUTF16", "coderFromArrayLen", "([BI)B"⟩
abbrev yB : ByteArray := jdk_52_method_15_code
theorem d0 : decode yB 0 = .ok (.iload_n 1, 1) := by decide +kernel
theorem d1 : decode yB 1 = .ok (.aload_n 0, 1) := by decide +kernel
theorem d2 : decode yB 2 = .ok (.arraylength, 1) := by decide +kernel
theorem d3 : decode yB 3 = .ok (.isub, 1) := by decide +kernel
theorem d4 : decode yB 4 = .ok (.bipush 31, 2) := by decide +kernel
theorem d6 : decode yB 6 = .ok (.iushr, 1) := by decide +kernel
theorem d7 : decode yB 7 = .ok (.i2b, 1) := by decide +kernel
theorem d8 : decode yB 8 = .ok (.ireturn, 1) := by decide +kernel
def site : List Cond := []
def tab : Cond := tabOf yN yB 2 (some .byte) site
def P (d : Addr) (B : Cell) (args : Array Value) (s : State) : Prop := args = #[.ref d, .int (Int32.ofNat B.slots.size)] ∧ Arr .byte d B s
def E (r : Option Value) (s u : State) : Prop := XT.PureE (some (.int 0)) r s u
/-- an array as long as the number of chars: LATIN1 -/
theorem law (l : Launch) (d : Addr) (B : Cell) : Law l yN 2 2 0 0 yB 2 (some .byte) site (P d B) E [] 0 0 := by
  refine Law.of_walk (plainFor_of_name (by decide +kernel)) (by decide +kernel) (by decide +kernel) (by decide) (fun _ _ h => by rw [h.1]; rfl) (fun _ U U' hal hh h => ⟨h.1, h.2.mv hal hh⟩) (fun r U U' V V' h1 hal h2 h => XT.PureE.mv r U U' V V' h1 hal h2 h) ?_
  intro p e s m args below meth c s₁ X0 hexec hbytes hml hret hlk hnm hown hh0 W hP
  obtain ⟨rfl, hB⟩ := hP
  have hB0 := hB.mv X0.warmed.alike hh0
  have c1 : Steps p.tables e below (s₁.setTop (entryFrame m #[.ref d, .int (Int32.ofNat B.slots.size)] 2)) (s₁.setTop (mkF m 0 #[.val (.ref d), .val (.int (Int32.ofNat B.slots.size))] [])) := entry rfl
  have c2 : Steps p.tables e below (s₁.setTop (entryFrame m #[.ref d, .int (Int32.ofNat B.slots.size)] 2)) (s₁.setTop (mkF m 2 #[.val (.ref d), .val (.int (Int32.ofNat B.slots.size))] [.ref d, .int (Int32.ofNat B.slots.size)])) := c1.trans (by
    refine XS.iloadN X0.here hexec rfl (hb hbytes d0) rfl ?_
    refine XS.aloadN X0.here hexec rfl (hb hbytes d1) rfl rfl ?_
    exact Steps.refl _)
  have c3 : Steps p.tables e below (s₁.setTop (entryFrame m #[.ref d, .int (Int32.ofNat B.slots.size)] 2)) (s₁.setTop (mkF m 8 #[.val (.ref d), .val (.int (Int32.ofNat B.slots.size))] [.int (lo8 (ushr (Int32.ofNat B.slots.size - Int32.ofNat B.slots.size) 31))])) := c2.trans (by
    refine X0.alen hexec hB0 rfl rfl (hb hbytes d2) ?_
    refine XS.isub X0.here hexec rfl (hb hbytes d3) rfl ?_
    refine bipushV X0.here hexec rfl 31 (hb hbytes d4) (by decide) ?_
    refine iushr X0.here hexec rfl (hb hbytes d6) rfl ?_
    refine i2b X0.here hexec rfl (hb hbytes d7) rfl ?_
    exact Steps.refl _)
  have e0 : lo8 (ushr (Int32.ofNat B.slots.size - Int32.ofNat B.slots.size) 31) = 0 := by rw [Int32.sub_self]; decide
  rw [e0] at c3
  exact ⟨s₁, some (.int 0), _, _, _, X0, rfl, rfl, rfl, (fun h => by cases h), ⟨rfl, hh0⟩, fun fs hl => c3.trans (X0.ireturnOut hexec hret rfl (Or.inr (Or.inr (Or.inl rfl))) (hb hbytes d8) hl)⟩
end CodL
/-- the String at a is Latin-1 over a new byte[] (the heap's one new cell): the low bytes of the len chars of A from o on; every cell but a is kept -/
def Got (a : Addr) (D : Cell) (fV fC : Field) (A : Cell) (o len : Nat) (r : Option Value) (s u : State) : Prop := r = none ∧ ∃ D' V : Cell, Blank "java/lang/String" a D' u ∧ Same D D' [fV.slot, fC.slot] ∧ D'.slots[fV.slot]? = some (.ref s.heap.size) ∧ D'.slots[fC.slot]? = some (.int 0) ∧ Arr .byte s.heap.size V u ∧ V.vm = .none ∧ u.vm.findClass "[B" = some V.cls ∧ V.slots.size = len ∧ (∀ j, j < len → V.slots[j]? = some (.int (lo8 (cv A (o + j))))) ∧ (∀ (y : Addr) (c : Cell), y ≠ a → s.heap[y]? = some c → u.heap[y]? = some c) ∧ u.heap.size = s.heap.size + 1
theorem Got.mv {a : Addr} {D A : Cell} {fV fC : Field} {o len : Nat} : ∀ r (U U' V V' : State), U'.heap = U.heap → V.vm.Alike V'.vm → V'.heap = V.heap → Got a D fV fC A o len r U V → Got a D fV fC A o len r U' V' :=
  fun r U U' V V' h1 hal h2 ⟨e0, D', X, a1, a2, a3, a4, a5, a6, a7, a8, a9, a10, a11⟩ => ⟨e0, D', X, a1.mv hal h2, a2, by rw [h1]; exact a3, a4, by rw [h1]; exact a5.mv hal h2, a6, by rw [hal.findClass]; exact a7, a8, a9, by rw [h1, h2]; exact a10, by rw [h1, h2]; exact a11⟩
namespace New4
def yN : MethodName := ⟨"java/lang/String", "<init>", "([CIILjava/lang/Void;)V"⟩
abbrev yB : ByteArray := jdk_42_method_149_code
theorem d0 : decode yB 0 = .ok (.aload_n 0, 1) := by decide +kernel
theorem d1 : decode yB 1 = .ok (.invokespecial 1, 3) := by decide +kernel
theorem d4 : decode yB 4 = .ok (.iload_n 3, 1) := by decide +kernel
theorem d5 : decode yB 5 = .ok (.ifCond (.ne) 22, 3) := by decide +kernel
theorem d27 : decode yB 27 = .ok (.getstatic 38, 3) := by decide +kernel
theorem d30 : decode yB 30 = .ok (.ifCond (.eq) 28, 3) := by decide +kernel
theorem d33 : decode yB 33 = .ok (.aload_n 1, 1) := by decide +kernel
theorem d34 : decode yB 34 = .ok (.iload_n 2, 1) := by decide +kernel
theorem d35 : decode yB 35 = .ok (.iload_n 3, 1) := by decide +kernel
theorem d36 : decode yB 36 = .ok (.invokestatic 177, 3) := by decide +kernel
theorem d39 : decode yB 39 = .ok (.astore 5, 2) := by decide +kernel
theorem d41 : decode yB 41 = .ok (.aload_n 0, 1) := by decide +kernel
theorem d42 : decode yB 42 = .ok (.aload 5, 2) := by decide +kernel
theorem d44 : decode yB 44 = .ok (.iload_n 3, 1) := by decide +kernel
theorem d45 : decode yB 45 = .ok (.invokestatic 47, 3) := by decide +kernel
theorem d48 : decode yB 48 = .ok (.putfield 15, 3) := by decide +kernel
theorem d51 : decode yB 51 = .ok (.aload_n 0, 1) := by decide +kernel
theorem d52 : decode yB 52 = .ok (.aload 5, 2) := by decide +kernel
theorem d54 : decode yB 54 = .ok (.putfield 9, 3) := by decide +kernel
theorem d57 : decode yB 57 = .ok (.return_, 1) := by decide +kernel
def site : List Cond := [.fieldLink "java/lang/String" 38 "java/lang/String" "COMPACT_STRINGS" "Z", Cmp3.tab, CodL.tab, .laysFinal "java/lang/String" "java/lang/String" "value" "[B", .fieldLink "java/lang/String" 9 "java/lang/String" "value" "[B", .laysFinal "java/lang/String" "java/lang/String" "coder" "B", .fieldLink "java/lang/String" 15 "java/lang/String" "coder" "B"] ++ objW "java/lang/String" 1 ++ staticW "java/lang/String" 177 Cmp3.yN ++ staticW "java/lang/String" 47 CodL.yN
def tab : Cond := tabOf yN yB 6 none site
def P (a : Addr) (D : Cell) (fV fC : Field) (b : Addr) (A : Cell) (z : Int32) (o len : Nat) (args : Array Value) (s : State) : Prop := args = #[.ref a, .ref b, .int (Int32.ofNat o), .int (Int32.ofNat len), .null] ∧ Blank "java/lang/String" a D s ∧ Found "java/lang/String" "value" "[B" fV s ∧ Found "java/lang/String" "coder" "B" fC s ∧ Ch b A s ∧ StaticIs s "java/lang/String" "COMPACT_STRINGS" "Z" (.int z) ∧ ¬ z = 0 ∧ 0 < len ∧ o + len ≤ A.slots.size ∧ len ≤ 536870912 ∧ ∀ i, i < len → ¬ 255 < cv A (o + i)
def E (a : Addr) (D : Cell) (fV fC : Field) (A : Cell) (o len : Nat) (r : Option Value) (s u : State) : Prop := Got a D fV fC A o len r s u
/-- len > 0, no char of the range above 255: a Latin-1 String of their low bytes -/
theorem law (l : Launch) (a : Addr) (D : Cell) (fV fC : Field) (b : Addr) (A : Cell) (z : Int32) (o len : Nat) : Law l yN 5 4 2 35 yB 6 none site (P a D fV fC b A z o len) (E a D fV fC A o len) [⟨a, fC.slot⟩, ⟨a, fV.slot⟩] 1 len := by
  refine Law.of_walk (plainFor_of_name (by decide +kernel)) (by decide +kernel) (by decide +kernel) (by decide) (fun _ _ h => by rw [h.1]; rfl) (fun _ U U' hal hh h => ⟨h.1, h.2.1.mv hal hh, h.2.2.1.al hal, h.2.2.2.1.al hal, h.2.2.2.2.1.mv hal hh, h.2.2.2.2.2.1.there hal hh, h.2.2.2.2.2.2⟩) (fun r U U' V V' h1 hal h2 h => Got.mv r U U' V V' h1 hal h2 h) ?_
  intro p e s m args below meth c s₁ X0 hexec hbytes hml hret hlk hnm hown hh0 W hP
  obtain ⟨rfl, hB, f1, f2, hA, s1, hz, l0, l1, l2, hp⟩ := hP
  have a31 := hA.1.2.2.2
  have c1 : Steps p.tables e below (s₁.setTop (entryFrame m #[.ref a, .ref b, .int (Int32.ofNat o), .int (Int32.ofNat len), .null] 6)) (s₁.setTop (mkF m 0 #[.val (.ref a), .val (.ref b), .val (.int (Int32.ofNat o)), .val (.int (Int32.ofNat len)), .val .null, .unset] [])) := entry rfl
  have c2 : Steps p.tables e below (s₁.setTop (entryFrame m #[.ref a, .ref b, .int (Int32.ofNat o), .int (Int32.ofNat len), .null] 6)) (s₁.setTop (mkF m 1 #[.val (.ref a), .val (.ref b), .val (.int (Int32.ofNat o)), .val (.int (Int32.ofNat len)), .val .null, .unset] [.ref a])) := c1.trans (by
    refine XS.aloadN X0.here hexec rfl (hb hbytes d0) rfl rfl ?_
    exact Steps.refl _)
  obtain ⟨T3, X3, q3, st3⟩ := X0.oinit hexec hown (wks W (objW "java/lang/String" 1)) (g := (mkF m 1 #[.val (.ref a), .val (.ref b), .val (.int (Int32.ofNat o)), .val (.int (Int32.ofNat len)), .val .null, .unset] [.ref a])) rfl (by rw [hml]; rfl) (rest := []) rfl (hb hbytes d1) (W := 0) (by show 2 * 0 + 0 ≤ _; decide) (Nat.le_of_ble_eq_true rfl) (Nat.le_of_ble_eq_true rfl)
  have hh3 := q3.trans hh0
  have c4 : Steps p.tables e below (s₁.setTop (entryFrame m #[.ref a, .ref b, .int (Int32.ofNat o), .int (Int32.ofNat len), .null] 6)) (T3.setTop (mkF m 27 #[.val (.ref a), .val (.ref b), .val (.int (Int32.ofNat o)), .val (.int (Int32.ofNat len)), .val .null, .unset] [])) := (c2.trans (st3 _ (Steps.refl _))).trans (by
    refine XS.iloadN X3.here hexec rfl (hb hbytes d4) rfl ?_
    refine XS.ifYes X3.here hexec rfl (pc0 := 5) rfl (hb hbytes d5) rfl (i0_ne_t (nz32 (by omega) l0)) (by decide) rfl ?_
    exact Steps.refl _)
  obtain ⟨T5, X5, q5, st5⟩ := X3.sget hexec hown (wk W (.fieldLink "java/lang/String" 38 "java/lang/String" "COMPACT_STRINGS" "Z")) s1 (fun _ _ h => by rw [hh3]; exact h) (g := (mkF m 27 #[.val (.ref a), .val (.ref b), .val (.int (Int32.ofNat o)), .val (.int (Int32.ofNat len)), .val .null, .unset] [])) rfl (hb hbytes d27)
  have hh5 := q5.trans hh3
  have c6 : Steps p.tables e below (s₁.setTop (entryFrame m #[.ref a, .ref b, .int (Int32.ofNat o), .int (Int32.ofNat len), .null] 6)) (T5.setTop (mkF m 30 #[.val (.ref a), .val (.ref b), .val (.int (Int32.ofNat o)), .val (.int (Int32.ofNat len)), .val .null, .unset] [.int z])) := c4.trans (st5 _ (Steps.refl _))
  have c7 : Steps p.tables e below (s₁.setTop (entryFrame m #[.ref a, .ref b, .int (Int32.ofNat o), .int (Int32.ofNat len), .null] 6)) (T5.setTop (mkF m 36 #[.val (.ref a), .val (.ref b), .val (.int (Int32.ofNat o)), .val (.int (Int32.ofNat len)), .val .null, .unset] [.int (Int32.ofNat len), .int (Int32.ofNat o), .ref b])) := c6.trans (by
    refine XS.ifNo X5.here hexec rfl (hb hbytes d30) rfl (i0_eq_f hz) ?_
    refine XS.aloadN X5.here hexec rfl (hb hbytes d33) rfl rfl ?_
    refine XS.iloadN X5.here hexec rfl (hb hbytes d34) rfl ?_
    refine XS.iloadN X5.here hexec rfl (hb hbytes d35) rfl ?_
    exact Steps.refl _)
  obtain ⟨v8, T8, X8, E8, g8⟩ := X5.callS hexec (Cmp3.law l b A o len) hown (wks W (staticW "java/lang/String" 177 Cmp3.yN)) (wk W Cmp3.tab) (W := 0) (Nat.le_of_ble_eq_true rfl) (Nat.le_of_ble_eq_true rfl) (Nat.le_refl _) (by show 0 + len ≤ len; omega) (g := (mkF m 36 #[.val (.ref a), .val (.ref b), .val (.int (Int32.ofNat o)), .val (.int (Int32.ofNat len)), .val .null, .unset] [.int (Int32.ofNat len), .int (Int32.ofNat o), .ref b])) rfl (by rw [hml]; rfl) c7 (argsL := [.ref b, .int (Int32.ofNat o), .int (Int32.ofNat len)]) (rest := []) rfl rfl (by show 2 * 0 + 0 ≤ _; decide) (hb hbytes d36) (⟨rfl, hA.mv X5.warmed.alike hh5, l1, l2, hp⟩)
  obtain ⟨e8, z8⟩ := E8
  obtain ⟨rfl, N, n1, n2, n3, n4, n5, n6⟩ := NewArr.mv _ T5 s _ _ hh5.symm (Vm.Alike.refl _) rfl e8
  rw [hh5] at z8
  have hB1 := hB.keep X8.warmed.alike (n6 _ _ hB.1)
  have hne : s.heap.size ≠ a := (Nat.ne_of_lt (Array.getElem?_eq_some_iff.mp hB.1).1).symm
  have c9 : Steps p.tables e below (s₁.setTop (entryFrame m #[.ref a, .ref b, .int (Int32.ofNat o), .int (Int32.ofNat len), .null] 6)) (T8.setTop (mkF m 39 #[.val (.ref a), .val (.ref b), .val (.int (Int32.ofNat o)), .val (.int (Int32.ofNat len)), .val .null, .unset] [.ref s.heap.size])) := g8
  have c10 : Steps p.tables e below (s₁.setTop (entryFrame m #[.ref a, .ref b, .int (Int32.ofNat o), .int (Int32.ofNat len), .null] 6)) (T8.setTop (mkF m 45 #[.val (.ref a), .val (.ref b), .val (.int (Int32.ofNat o)), .val (.int (Int32.ofNat len)), .val .null, .val (.ref s.heap.size)] [.int (Int32.ofNat N.slots.size), .ref s.heap.size, .ref a])) := by
    have hc : Steps p.tables e below (s₁.setTop (entryFrame m #[.ref a, .ref b, .int (Int32.ofNat o), .int (Int32.ofNat len), .null] 6)) (T8.setTop (mkF m 45 #[.val (.ref a), .val (.ref b), .val (.int (Int32.ofNat o)), .val (.int (Int32.ofNat len)), .val .null, .val (.ref s.heap.size)] [.int (Int32.ofNat len), .ref s.heap.size, .ref a])) := c9.trans (by
      refine XS.astore X8.here hexec rfl (hb hbytes d39) rfl rfl rfl ?_
      refine XS.aloadN X8.here hexec rfl (hb hbytes d41) rfl rfl ?_
      refine XS.aload X8.here hexec rfl (hb hbytes d42) rfl rfl ?_
      refine XS.iloadN X8.here hexec rfl (hb hbytes d44) rfl ?_
      exact Steps.refl _)
    rw [n4]; exact hc
  obtain ⟨v11, T11, X11, E11, g11⟩ := X8.callS hexec (CodL.law l s.heap.size N) hown (wks W (staticW "java/lang/String" 47 CodL.yN)) (wk W CodL.tab) (W := 1) (Nat.le_of_ble_eq_true rfl) (Nat.le_of_ble_eq_true rfl) (Nat.le_refl _) (by show 0 + len + 0 ≤ len; omega) (g := (mkF m 45 #[.val (.ref a), .val (.ref b), .val (.int (Int32.ofNat o)), .val (.int (Int32.ofNat len)), .val .null, .val (.ref s.heap.size)] [.int (Int32.ofNat N.slots.size), .ref s.heap.size, .ref a])) rfl (by rw [hml]; rfl) c10 (argsL := [.ref s.heap.size, .int (Int32.ofNat N.slots.size)]) (rest := [.ref a]) rfl rfl (by show 2 * 0 + (1 + 0) ≤ _; decide) (hb hbytes d45) (⟨rfl, n1⟩)
  obtain ⟨rfl, q11⟩ := E11
  have hB11 := hB1.mv (X8.warmed.alike.symm.trans X11.warmed.alike) q11
  have c12 : Steps p.tables e below (s₁.setTop (entryFrame m #[.ref a, .ref b, .int (Int32.ofNat o), .int (Int32.ofNat len), .null] 6)) (T11.setTop (mkF m 48 #[.val (.ref a), .val (.ref b), .val (.int (Int32.ofNat o)), .val (.int (Int32.ofNat len)), .val .null, .val (.ref s.heap.size)] [.int 0, .ref a])) := g11
  obtain ⟨T13, X13, p13, bl13, sl13, st13⟩ := X11.finit hexec hown (wk W (.fieldLink "java/lang/String" 15 "java/lang/String" "coder" "B")) (Or.inr ⟨_, (wk W (.laysFinal "java/lang/String" "java/lang/String" "coder" "B"))⟩) (Or.inl ⟨rfl, hnm⟩) f2 (Or.inl rfl) hB11 (t := .byte) (by decide +kernel) rfl (g := (mkF m 48 #[.val (.ref a), .val (.ref b), .val (.int (Int32.ofNat o)), .val (.int (Int32.ofNat len)), .val .null, .val (.ref s.heap.size)] [.int 0, .ref a])) rfl (rest := []) rfl (hb hbytes d48)
  have c14 : Steps p.tables e below (s₁.setTop (entryFrame m #[.ref a, .ref b, .int (Int32.ofNat o), .int (Int32.ofNat len), .null] 6)) (T13.setTop (mkF m 54 #[.val (.ref a), .val (.ref b), .val (.int (Int32.ofNat o)), .val (.int (Int32.ofNat len)), .val .null, .val (.ref s.heap.size)] [.ref s.heap.size, .ref a])) := (c12.trans (st13 _ (Steps.refl _))).trans (by
    refine XS.aloadN X13.here hexec rfl (hb hbytes d51) rfl rfl ?_
    refine XS.aload X13.here hexec rfl (hb hbytes d52) rfl rfl ?_
    exact Steps.refl _)
  obtain ⟨T15, X15, p15, bl15, sl15, st15⟩ := X13.finit hexec hown (wk W (.fieldLink "java/lang/String" 9 "java/lang/String" "value" "[B")) (Or.inr ⟨_, (wk W (.laysFinal "java/lang/String" "java/lang/String" "value" "[B"))⟩) (Or.inl ⟨rfl, hnm⟩) f1 (Or.inl rfl) bl13 (t := (.array .byte)) (by decide +kernel) rfl (g := (mkF m 54 #[.val (.ref a), .val (.ref b), .val (.int (Int32.ofNat o)), .val (.int (Int32.ofNat len)), .val .null, .val (.ref s.heap.size)] [.ref s.heap.size, .ref a])) rfl (rest := []) rfl (hb hbytes d54)
  have c16 : Steps p.tables e below (s₁.setTop (entryFrame m #[.ref a, .ref b, .int (Int32.ofNat o), .int (Int32.ofNat len), .null] 6)) (T15.setTop (mkF m 57 #[.val (.ref a), .val (.ref b), .val (.int (Int32.ofNat o)), .val (.int (Int32.ofNat len)), .val .null, .val (.ref s.heap.size)] [])) := c14.trans (st15 _ (Steps.refl _))
  have ap := apart (Or.inr ⟨_, (wk W (.laysFinal "java/lang/String" "java/lang/String" "value" "[B"))⟩) (Or.inr ⟨_, (wk W (.laysFinal "java/lang/String" "java/lang/String" "coder" "B"))⟩) f1 f2 (t₁ := .array .byte) (t₂ := .byte) (by decide +kernel) (by decide +kernel) (by decide)
  have al := X8.warmed.alike.symm.trans X15.warmed.alike
  have n7 : T11.heap[s.heap.size]? = some N := by rw [q11]; exact n1.1
  exact ⟨T15, none, _, _, _, X15, by simp, rfl, by omega, (fun _ => rfl), ⟨rfl, _, N, bl15, ((Same.refl D _).set _ (by simp)).set _ (by simp), sl15, (Cell.slots_setSlot_ne _ ap).trans sl13, n1.keep al (p15.other hne (p13.other hne n7)), n2, by rw [al.findClass]; exact n3, n4, n5, fun y c h1 h2 => p15.other h1 (p13.other h1 (by rw [q11]; exact n6 y c h2)), by rw [p15.2.2, p13.2.2, q11]; exact z8⟩, fun fs hl => c16.trans (X15.returnOut hexec hret (hb hbytes d57) hl)⟩
end New4
namespace New1
def yN : MethodName := ⟨"java/lang/String", "<init>", "([C)V"⟩
abbrev yB : ByteArray := jdk_42_method_3_code
theorem d0 : decode yB 0 = .ok (.aload_n 0, 1) := by decide +kernel
theorem d1 : decode yB 1 = .ok (.aload_n 1, 1) := by decide +kernel
theorem d2 : decode yB 2 = .ok (.iconst 0, 1) := by decide +kernel
theorem d3 : decode yB 3 = .ok (.aload_n 1, 1) := by decide +kernel
theorem d4 : decode yB 4 = .ok (.arraylength, 1) := by decide +kernel
theorem d5 : decode yB 5 = .ok (.aconst_null, 1) := by decide +kernel
theorem d6 : decode yB 6 = .ok (.invokespecial 27, 3) := by decide +kernel
theorem d9 : decode yB 9 = .ok (.return_, 1) := by decide +kernel
def site : List Cond := [New4.tab] ++ initW "java/lang/String" 27 New4.yN
def tab : Cond := tabOf yN yB 2 none site
def P (a : Addr) (D : Cell) (fV fC : Field) (b : Addr) (A : Cell) (z : Int32) (args : Array Value) (s : State) : Prop := args = #[.ref a, .ref b] ∧ Blank "java/lang/String" a D s ∧ Found "java/lang/String" "value" "[B" fV s ∧ Found "java/lang/String" "coder" "B" fC s ∧ Ch b A s ∧ StaticIs s "java/lang/String" "COMPACT_STRINGS" "Z" (.int z) ∧ ¬ z = 0 ∧ 0 < A.slots.size ∧ A.slots.size ≤ 536870912 ∧ ∀ i, i < A.slots.size → ¬ 255 < cv A i
def E (a : Addr) (D : Cell) (fV fC : Field) (A : Cell) (r : Option Value) (s u : State) : Prop := Got a D fV fC A 0 A.slots.size r s u
/-- new String(chars), not empty, no char above 255: a Latin-1 String of their low bytes -/
theorem law (l : Launch) (a : Addr) (D : Cell) (fV fC : Field) (b : Addr) (A : Cell) (z : Int32) : Law l yN 2 1 3 52 yB 2 none site (P a D fV fC b A z) (E a D fV fC A) [⟨a, fC.slot⟩, ⟨a, fV.slot⟩] 1 A.slots.size := by
  refine Law.of_walk (plainFor_of_name (by decide +kernel)) (by decide +kernel) (by decide +kernel) (by decide) (fun _ _ h => by rw [h.1]; rfl) (fun _ U U' hal hh h => ⟨h.1, h.2.1.mv hal hh, h.2.2.1.al hal, h.2.2.2.1.al hal, h.2.2.2.2.1.mv hal hh, h.2.2.2.2.2.1.there hal hh, h.2.2.2.2.2.2⟩) (fun r U U' V V' h1 hal h2 h => Got.mv r U U' V V' h1 hal h2 h) ?_
  intro p e s m args below meth c s₁ X0 hexec hbytes hml hret hlk hnm hown hh0 W hP
  obtain ⟨rfl, hB, f1, f2, hA, s1, hz, l0, l2, hp⟩ := hP
  have c1 : Steps p.tables e below (s₁.setTop (entryFrame m #[.ref a, .ref b] 2)) (s₁.setTop (mkF m 0 #[.val (.ref a), .val (.ref b)] [])) := entry rfl
  have c2 : Steps p.tables e below (s₁.setTop (entryFrame m #[.ref a, .ref b] 2)) (s₁.setTop (mkF m 6 #[.val (.ref a), .val (.ref b)] [.null, .int (Int32.ofNat A.slots.size), .int 0, .ref b, .ref a])) := c1.trans (by
    refine XS.aloadN X0.here hexec rfl (hb hbytes d0) rfl rfl ?_
    refine XS.aloadN X0.here hexec rfl (hb hbytes d1) rfl rfl ?_
    refine iconstV X0.here hexec rfl 0 (hb hbytes d2) (by decide) ?_
    refine XS.aloadN X0.here hexec rfl (hb hbytes d3) rfl rfl ?_
    refine X0.alen hexec (hA.1.mv X0.warmed.alike hh0) rfl rfl (hb hbytes d4) ?_
    refine XS.aconstNull X0.here hexec rfl (hb hbytes d5) ?_
    exact Steps.refl _)
  obtain ⟨v3, T3, X3, E3, g3⟩ := X0.callN hexec (New4.law l a D fV fC b A z 0 A.slots.size) rfl hown (wks W (initW "java/lang/String" 27 New4.yN)) (W New4.tab (by simp only [site, List.mem_cons, List.mem_append, true_or, or_true])) (W := 0) (Nat.le_of_ble_eq_true rfl) (Nat.le_of_ble_eq_true rfl) (Nat.le_refl _) (by show 0 + A.slots.size ≤ A.slots.size; omega) (g := (mkF m 6 #[.val (.ref a), .val (.ref b)] [.null, .int (Int32.ofNat A.slots.size), .int (Int32.ofNat 0), .ref b, .ref a])) rfl (by rw [hml]; rfl) c2 (argsL := [.ref b, .int (Int32.ofNat 0), .int (Int32.ofNat A.slots.size), .null]) (rest := []) rfl rfl (by show 2 * 0 + 0 ≤ _; decide) (hb hbytes d6) (⟨rfl, hB.mv X0.warmed.alike hh0, f1.al X0.warmed.alike, f2.al X0.warmed.alike, hA.mv X0.warmed.alike hh0, s1.there X0.warmed.alike hh0, hz, l0, by omega, l2, fun i hi => by rw [Nat.zero_add]; exact hp i hi⟩)
  have e0 := Got.mv _ s₁ s _ _ hh0.symm (Vm.Alike.refl _) rfl E3
  obtain rfl := e0.1
  have c4 : Steps p.tables e below (s₁.setTop (entryFrame m #[.ref a, .ref b] 2)) (T3.setTop (mkF m 9 #[.val (.ref a), .val (.ref b)] [])) := g3
  exact ⟨T3, none, _, _, _, X3, by simp, rfl, by omega, (fun _ => rfl), e0, fun fs hl => c4.trans (X3.returnOut hexec hret (hb hbytes d9) hl)⟩
theorem pays {l : Launch} {R : Room} {p : Program} {e : Env} {below : List Frame} {s : State} {sargs : Array Value} {len W : Nat} (a : Addr) (D : Cell) (fV fC : Field) (b : Addr) (A : Cell) (z : Int32) (htab : tab.before sargs s = true) (hfr : 4 ≤ R.frames) (hlo : W + 65 ≤ R.locals) :
    Back l R p e below s sargs yN len W (fun A₁ a₁ => A₁.cells + 1 ≤ R.cells ∧ A₁.slots + A.slots.size ≤ R.slots ∧ P a D fV fC b A z a₁ A₁.U) (fun A₁ _ v₁ B₁ => E a D fV fC A v₁ A₁.U B₁.U ∧ B₁.locs = A₁.locs ++ [⟨a, fC.slot⟩, ⟨a, fV.slot⟩] ∧ B₁.cells = A₁.cells + 1 ∧ B₁.slots = A₁.slots + A.slots.size) :=
  (law l a D fV fC b A z).pays htab hfr (by omega)
end New1
/-- the byte, read back as charAt reads it, is the char -/
theorem lo8_mask {x : Int32} (h0 : ¬ x < 0) (h1 : ¬ 255 < x) : lo8 x &&& 255 = x := by
  have t : ∀ k : Fin 256, lo8 (Int32.ofNat k.val) &&& 255 = Int32.ofNat k.val := by decide +kernel
  rw [Int32.lt_iff_toInt_lt] at h0 h1
  have e0 : (0 : Int32).toInt = 0 := rfl
  have e1 : (255 : Int32).toInt = 255 := rfl
  obtain ⟨k, hk⟩ : ∃ k : Nat, x.toInt = k := ⟨x.toInt.toNat, by omega⟩
  have hx : x = Int32.ofNat k := Int32.toInt_inj.mp (by rw [hk, Int32.toInt_ofNat_small (by omega)])
  rw [hx]
  exact t ⟨k, by omega⟩
end StrChars
namespace StrChars.Road
open Jvm Sem ClassFile Op Lib Jvm.Stand Jvm.Free Jvm.Free.XT
open Jvm.Lib.Cold (StaticIs)
abbrev ST : String := "java/lang/String"
/-- every table word that New1's law asks, flat -/
abbrev words : List Jvm.Cond := [.code New1.yN New1.yB 2 none, .initialized ST, .methodLink ST 27 New4.yN, .instanceMethod New4.yN,
  .code New4.yN New4.yB 6 none, .fieldLink ST 38 ST "COMPACT_STRINGS" "Z", .laysFinal ST ST "value" "[B", .fieldLink ST 9 ST "value" "[B", .laysFinal ST ST "coder" "B", .fieldLink ST 15 ST "coder" "B",
  .methodLink ST 1 Lib.objectInit, .instanceMethod Lib.objectInit, .code Lib.objectInit ⟨#[0xb1]⟩ 1 none, .methodLink ST 177 Cmp3.yN, .static Cmp3.yN, .methodLink ST 47 CodL.yN, .static CodL.yN,
  .code Cmp3.yN Cmp3.yB 6 (some (.array .byte)), .initialized U16, .arrayClass .byte, .methodLink U16 115 Cmp5.yN, .static Cmp5.yN, .code Cmp5.yN Cmp5.yB 7 (some .int), .code CodL.yN CodL.yB 2 (some .byte)]
theorem tab_of {a : Array Value} {s : State} (h : ∀ w ∈ words, w.before a s = true) : New1.tab.before a s = true := by
  have h5 : Cmp5.tab.before a s = true := unparts (wk h (.code Cmp5.yN Cmp5.yB 7 (some .int))) (wks h (.initialized Cmp5.yN.cls :: Cmp5.site))
  have hc : CodL.tab.before a s = true := unparts (wk h (.code CodL.yN CodL.yB 2 (some .byte))) (wks h (.initialized CodL.yN.cls :: CodL.site))
  have q5 : ∀ w ∈ Cmp5.tab :: words, w.before a s = true := fun w hw => (List.mem_cons.mp hw).elim (fun e => e ▸ h5) (h w)
  have h3 : Cmp3.tab.before a s = true := unparts (wk q5 (.code Cmp3.yN Cmp3.yB 6 (some (.array .byte)))) (wks q5 (.initialized Cmp3.yN.cls :: Cmp3.site))
  have q3 : ∀ w ∈ Cmp3.tab :: CodL.tab :: words, w.before a s = true := fun w hw => (List.mem_cons.mp hw).elim (fun e => e ▸ h3) fun hw => (List.mem_cons.mp hw).elim (fun e => e ▸ hc) (h w)
  have h4 : New4.tab.before a s = true := unparts (wk q3 (.code New4.yN New4.yB 6 none)) (wks q3 (.initialized New4.yN.cls :: New4.site))
  have q4 : ∀ w ∈ New4.tab :: words, w.before a s = true := fun w hw => (List.mem_cons.mp hw).elim (fun e => e ▸ h4) (h w)
  exact unparts (wk q4 (.code New1.yN New1.yB 2 none)) (wks q4 (.initialized New1.yN.cls :: New1.site))
/-- the words ride from the start Z to the walk's own state -/
theorem moved {Z s : State} {a0 args : Array Value} (hZ : Z.Warmed39 s.vm) (hw : ∀ d ∈ words, d.before a0 Z = true) : ∀ d ∈ words, d.before args s = true := fun d hd => by
  have q := hw d hd
  have t : ∀ d ∈ words, d = .arrayClass .byte ∨ (d.onTables && d.keepsFace) = true := by decide +kernel
  rcases t d hd with rfl | t
  · exact RoadKit.mvA hZ q
  · exact RoadKit.mv hZ q t
/-- WHAT COMES BACK, over the tables of the start Z: h the heap at the call, h' behind it -/
def Q (Z : State) (x : Addr) (A : Cell) (h : Heap) (v : Option Value) (h' : Heap) (L : List Loc) : Prop := v = none ∧ (∀ y ∈ L, y.base = x) ∧ RoadKit.Keep h h' [x] ∧ h'.size = h.size + 1 ∧ RoadKit.Exa Z h' x ST ∧ RoadKit.Fld Z h' x ST "value" "[B" (.ref h.size) ∧ RoadKit.Fld Z h' x ST "coder" "B" (.int 0) ∧
  (∃ V : Cell, RoadKit.Arr Z h' h.size V .byte ∧ V.vm = .none ∧ Z.vm.findClass "[B" = some V.cls ∧ V.slots.size = A.slots.size ∧ ∀ j, j < A.slots.size → V.slots[j]? = some (.int (lo8 (cv A j)))) ∧
  ∀ (O n d : String) (w : Value), RoadKit.Fld Z h x O n d w → RoadKit.slotOf Z O n d ≠ RoadKit.slotOf Z ST "value" "[B" → RoadKit.slotOf Z O n d ≠ RoadKit.slotOf Z ST "coder" "B" → RoadKit.Fld Z h' x O n d w
/-- **new String(chars) AT A CALL, IN THE ROAD'S FORM**: for specialBack behind newO: x the fresh String, b the char[] with the cell A -/
theorem back {p : Program} {l : Launch} {e : Env} {R : Room} {s : State} {args : Array Value} {below : List Frame} {len W : Nat} {Z : State} {a0 : Array Value} {h : Heap} (hZ : Z.Warmed39 s.vm) (hw : ∀ d ∈ words, d.before a0 Z = true) {kI : Nat} (wi : (Jvm.Cond.instantiable ST kI).before a0 Z = true)
    {x b : Addr} {A : Cell} {z : Int32} {v0 c0 : Value} (E : RoadKit.Exa Z h x ST) (V : RoadKit.Fld Z h x ST "value" "[B" v0) (C : RoadKit.Fld Z h x ST "coder" "B" c0) (K : RoadKit.Arr Z h b A .char) (hty : Typed .char A) (S : RoadKit.Sta Z h ST "COMPACT_STRINGS" "Z" (.int z)) (hz : ¬ z = 0)
    (l0 : 0 < A.slots.size) (l2 : A.slots.size ≤ 536870912) (hp : ∀ i, i < A.slots.size → ¬ 255 < cv A i) (hfr : 4 ≤ R.frames) (hlo : W + 65 ≤ R.locals) :
    Back l R p e below s args New1.yN len W (fun P a => a = #[.ref x, .ref b] ∧ P.U.heap = h ∧ P.cells + 1 ≤ R.cells ∧ P.slots + A.slots.size ≤ R.slots)
      (fun P _ v B => ∃ L, Q Z x A h v B.U.heap L ∧ B.locs = P.locs ++ L ∧ B.cells = P.cells + 1 ∧ B.slots = P.slots + A.slots.size) := by
  intro m meth c P g ig mk a X hg hsize hdg hW hn hp'
  obtain ⟨rfl, rfl, r1, r2⟩ := hp'
  have al : Z.vm.Alike P.U.vm := hZ.alike.trans X.warmed.alike
  obtain ⟨D, cfV, kV, iV, fV, hD, gV, stV, knV, obV, asV, slV⟩ := id V
  obtain ⟨D', cfC, kC, iC, fC, hD', gC, stC, -, -, asC, slC⟩ := id C
  cases hD.symm.trans hD'
  obtain ⟨D2, kD, e1, e2, e3, e4, e5⟩ := id E
  cases hD.symm.trans e1
  obtain ⟨c2, k2, i1, i2, i3, -⟩ := Cond.instantiable_spec wi
  cases e2.symm.trans i1
  cases e3.symm.trans i2
  obtain ⟨kU, u1, u2⟩ := al.2.2 _ _ e3
  have hB : Blank ST x D P.U := ⟨hD, ⟨knV, fun q hq => by rw [hq] at obV; cases obV⟩, by rw [al.findClass]; exact e2, kU, u1, by rw [u2]; exact i3, by rw [u2]; exact e5 i3⟩
  have F1 : Found ST "value" "[B" fV P.U := ⟨SBG.found_only al ⟨cfV, kV, iV, gV⟩, stV⟩
  have F2 : Found ST "coder" "B" fC P.U := ⟨SBG.found_only al ⟨cfC, kC, iC, gC⟩, stC⟩
  have hA : Ch b A P.U := ⟨⟨K.1, State.isArrayOf_alike al K.2.1, K.2.2, by omega⟩, hty⟩
  have hS : StaticIs P.U ST "COMPACT_STRINGS" "Z" (.int z) := by
    obtain ⟨cfS, iS, kS, fS, st, cS, t1, t2, t3, t4, t5, t6, t7⟩ := S
    exact StaticIs.there (s := { Z with heap := P.U.heap }) ⟨cfS, iS, kS, fS, st, cS, t1, t2, t3, t4, t5, (fun q => by rw [q] at t6; cases t6), t7⟩ al rfl
  obtain ⟨v, B, X', ⟨⟨hv, E', V', q1, q2, q3, q4, q5, q6, q7, q8, q9, q10, q11⟩, hl, hc, hs⟩, st⟩ := New1.pays x D fV fC b A z (tab_of (moved hZ hw)) hfr hlo m meth c P g ig mk _ X hg hsize hdg hW hn ⟨r1, r2, rfl, hB, F1, F2, hA, hS, hz, l0, l2, hp⟩
  have al' : Z.vm.Alike B.U.vm := hZ.alike.trans X'.warmed.alike
  have hsz : E'.slots.size = D.slots.size := by
    obtain ⟨-, -, -, kB, w1, w2, w3⟩ := q1
    obtain ⟨kB', y1, y2⟩ := al'.2.2 _ _ e3
    rw [q2.2.1] at w1
    cases w1.symm.trans y1
    rw [w3, e5 i3, y2]
  refine ⟨v, B, X', ⟨_, ⟨hv, ?_, ⟨by omega, fun y cy hy hn' => q10 y cy (by simpa using hn') hy, fun y cy hy => ?_⟩, q11, ⟨E', _, q1.1, by rw [q2.2.1]; exact e2, by rw [q2.2.1]; exact e3, by rw [q2.1]; exact obV, fun _ => by rw [hsz]; exact e5 i3⟩,
    ⟨E', cfV, kV, iV, fV, q1.1, gV, stV, by rw [q2.1]; exact knV, by rw [q2.1]; exact obV, by rw [q2.2.1]; exact asV, q3⟩, ⟨E', cfC, kC, iC, fC, q1.1, gC, stC, by rw [q2.1]; exact knV, by rw [q2.1]; exact obV, by rw [q2.2.1]; exact asC, q4⟩,
    ⟨V', ⟨q5.1, State.isArrayOf_alike al'.symm q5.2.1, q5.2.2.1⟩, q6, by rw [← al'.findClass]; exact q7, q8, fun j hj => by have := q9 j hj; rwa [Nat.zero_add] at this⟩, fun O n d w F n1 n2 => ?_⟩, hl, hc, hs⟩, st⟩
  · intro y hy
    simp only [List.mem_cons, List.not_mem_nil, or_false] at hy
    rcases hy with rfl | rfl <;> rfl
  · by_cases q : y = x
    · subst q
      cases hD.symm.trans hy
      exact ⟨E', q1.1, q2.2.1, q2.1, hsz⟩
    · exact ⟨cy, q10 y cy q hy, rfl, rfl, rfl⟩
  · obtain ⟨D3, cf, k, i, f, g1, g2, g3, g4, g5, g6, g7⟩ := F
    cases hD.symm.trans g1
    simp only [RoadKit.slotOf, g2, gV, gC, Option.map_some, Option.getD_some] at n1 n2
    exact ⟨E', cf, k, i, f, q1.1, g2, g3, by rw [q2.1]; exact g4, by rw [q2.1]; exact g5, by rw [q2.2.1]; exact g6, by rw [q2.2.2 f.slot (by simp [n1, n2])]; exact g7⟩
end StrChars.Road
namespace StrChars.Road
open Jvm Sem ClassFile Op Lib Jvm.Stand Jvm.Free Jvm.Free.XT
/-- WHAT COMES BACK, the byte[] as a list of values -/
def QA (Z : State) (x : Addr) (zn : Int32) (cs : List Int32) (h : Heap) (v : Option Value) (h' : Heap) (L : List Loc) : Prop := v = none ∧ (∀ y ∈ L, y.base = x) ∧ RoadKit.Keep h h' [x] ∧ h'.size = h.size + 1 ∧ RoadKit.Exa Z h' x ST ∧ RoadKit.Fld Z h' x ST "value" "[B" (.ref h.size) ∧ RoadKit.Fld Z h' x ST "coder" "B" (.int 0) ∧
  (∃ kb, Z.vm.findClass "[B" = some kb ∧ RoadKit.Arv Z h' h.size kb .byte zn (cs.map fun c => .int (lo8 c)) (.int 0)) ∧
  ∀ (O n d : String) (w : Value), RoadKit.Fld Z h x O n d w → RoadKit.slotOf Z O n d ≠ RoadKit.slotOf Z ST "value" "[B" → RoadKit.slotOf Z O n d ≠ RoadKit.slotOf Z ST "coder" "B" → RoadKit.Fld Z h' x O n d w
/-- **new String(chars) AT A CALL, THE ARRAYS AS LISTS**: the char[] at b holds cs, not empty, no char above 255 -/
theorem backArv {p : Program} {l : Launch} {e : Env} {R : Room} {s : State} {args : Array Value} {below : List Frame} {len W : Nat} {Z : State} {a0 : Array Value} {h : Heap} (hZ : Z.Warmed39 s.vm) (hw : ∀ d ∈ words, d.before a0 Z = true) {kI : Nat} (wi : (Jvm.Cond.instantiable ST kI).before a0 Z = true)
    {x b : Addr} {k : ClassId} {zn z : Int32} {cs : List Int32} {dv v0 c0 : Value} (E : RoadKit.Exa Z h x ST) (V : RoadKit.Fld Z h x ST "value" "[B" v0) (C : RoadKit.Fld Z h x ST "coder" "B" c0) (K : RoadKit.Arv Z h b k .char zn (cs.map Value.int) dv) (S : RoadKit.Sta Z h ST "COMPACT_STRINGS" "Z" (.int z)) (hz : ¬ z = 0)
    (hlen : zn.toNatClampNeg = cs.length) (h0 : 0 < cs.length) (hbig : cs.length ≤ 536870912) (hall : ∀ c ∈ cs, ¬ 255 < c) (hfr : 4 ≤ R.frames) (hlo : W + 65 ≤ R.locals) :
    Back l R p e below s args New1.yN len W (fun P a => a = #[.ref x, .ref b] ∧ P.U.heap = h ∧ P.cells + 1 ≤ R.cells ∧ P.slots + cs.length ≤ R.slots)
      (fun P _ v B => ∃ L, QA Z x zn cs h v B.U.heap L ∧ B.locs = P.locs ++ L ∧ B.cells = P.cells + 1 ∧ B.slots = P.slots + cs.length) := by
  obtain ⟨A, K1, K2, K3, K4, K5, K6⟩ := K
  have e : A.slots.size = cs.length := K3.trans hlen
  have hat : ∀ (i : Nat) (hi : i < cs.length), A.slots[i]? = some (.int cs[i]) := fun i hi => by rw [K5 i (by omega)]; simp [List.getD_eq_getElem?_getD, hi]
  have hcv : ∀ (i : Nat) (hi : i < cs.length), cv A i = cs[i] := fun i hi => by unfold cv; rw [hat i hi]
  have hty : Typed .char A := fun i v hv => by
    have hi : i < A.slots.size := (Array.getElem?_eq_some_iff.mp hv).1
    have q := K5 i hi
    rw [hv] at q
    rw [Option.some.inj q]
    exact K6 i hi
  refine Back.mono (back hZ hw wi E V C K1 hty S hz (by omega) (by omega) (fun i hi => by rw [hcv i (by omega)]; exact hall _ (List.getElem_mem _)) hfr hlo) (fun P a hp => ⟨hp.1, hp.2.1, hp.2.2.1, by rw [e]; exact hp.2.2.2⟩) (fun P a v B hp hq => ?_)
  obtain ⟨L, ⟨q1, q2, q3, q4, q5, q6, q7, ⟨V', v1, v2, v3, v4, v5⟩, q9⟩, hl, hc, hs⟩ := hq
  refine ⟨L, ⟨q1, q2, q3, q4, q5, q6, q7, ⟨V'.cls, v3, V', v1, rfl, by rw [v4, e, hlen], K4, fun i hi => ?_, fun i hi => ?_⟩, q9⟩, hl, hc, by rw [hs, e]⟩
  · have hi' : i < cs.length := by omega
    rw [v5 i (by omega), hcv i hi']; simp [List.getD_eq_getElem?_getD, hi']
  · have hi' : i < cs.length := by omega
    simp only [List.getD_eq_getElem?_getD, List.getElem?_map, List.getElem?_eq_getElem hi', Option.map_some, Option.getD_some]
    exact fits_lo8 _
end StrChars.Road
namespace StrChars.Road
open Jvm Sem ClassFile Op Lib Jvm.Stand Jvm.Free Jvm.Free.XT
/-- WHAT COMES BACK, in the writer's own shape -/
def QV (Z : State) (x : Addr) (N : Int32) (bs : List Int32) (h : Heap) (n0 : Nat) (v : Option Value) (h' : Heap) (L : List Loc) : Prop := v = none ∧ RoadKit.Fr n0 L ∧ RoadKit.Keep h h' [x] ∧ RoadKit.Exa Z h' x ST ∧ RoadKit.Fld Z h' x ST "coder" "B" (.int 0) ∧
  ∃ (t : Addr) (kb : ClassId), n0 ≤ t ∧ h.size ≤ t ∧ ¬ t = x ∧ RoadKit.Fld Z h' x ST "value" "[B" (.ref t) ∧ RoadKit.Arv Z h' t kb .byte N (bs.map Value.int) (.int 0)
/-- **new String(chars) AT A CALL, FOR THE WRITER**: a char[] of n known ints, each 0 to 255 -/
theorem backV {p : Program} {l : Launch} {e : Env} {R : Room} {s : State} {args : Array Value} {below : List Frame} {len W : Nat} {Z : State} {a0 : Array Value} {h : Heap} (hZ : Z.Warmed39 s.vm) (hw : ∀ d ∈ words, d.before a0 Z = true) {kI : Nat} (wi : (Jvm.Cond.instantiable ST kI).before a0 Z = true)
    {x b : Addr} {kC : ClassId} {cs bs : List Int32} {d v0 c0 : Value} {z N : Int32} {n n0 : Nat} (hx0 : n0 ≤ x) (hh0 : n0 ≤ h.size) (E : RoadKit.Exa Z h x ST) (V : RoadKit.Fld Z h x ST "value" "[B" v0) (C : RoadKit.Fld Z h x ST "coder" "B" c0) (K : RoadKit.Arv Z h b kC .char N (cs.map Value.int) d) (S : RoadKit.Sta Z h ST "COMPACT_STRINGS" "Z" (.int z)) (hz : ¬ z = 0)
    (hn : cs.length = n) (hN : N = Int32.ofNat n) (l0 : 0 < n) (l2 : n ≤ 4000) (hp : ∀ c ∈ cs, ¬ c < 0 ∧ ¬ (255 : Int32) < c) (hb : bs = cs.map (fun c => c.toInt8.toInt32)) (hfr : 4 ≤ R.frames) (hlo : W + 65 ≤ R.locals) :
    Back l R p e below s args (⟨"java/lang/String", "<init>", "([C)V"⟩ : MethodName) len W (fun P a => a = #[.ref x, .ref b] ∧ P.U.heap = h ∧ P.cells + 1 ≤ R.cells ∧ P.slots + n ≤ R.slots)
      (fun P _ v B => ∃ L, QV Z x N bs h n0 v B.U.heap L ∧ B.locs = P.locs ++ L ∧ B.cells = P.cells + 1 ∧ B.slots = P.slots + n) := by
  subst hn hN hb
  refine Back.mono (backArv hZ hw wi E V C K S hz (n32 (by omega)) l0 (by omega) (fun c hc => (hp c hc).2) hfr hlo) (fun P a hp => hp) (fun P a v B hp hq => ?_)
  obtain ⟨L, ⟨q1, q2, q3, q4, q5, q6, q7, ⟨kb, v1, v2⟩, q9⟩, hl, hc, hs⟩ := hq
  exact ⟨L, ⟨q1, fun y hy => by rw [q2 y hy]; exact hx0, q3, q5, q7, h.size, kb, hh0, Nat.le_refl _, Nat.ne_of_gt E.lt, q6, by rw [List.map_map]; exact v2⟩, hl, hc, hs⟩
end StrChars.Road
namespace StrChars
open Jvm Sem ClassFile Op Lib Jvm.Stand Jvm.Free.XT Jvm.Free.ALB Jvm.Free.JM Jvm.Free
open Jvm.Lib.Cold (StaticIs)
def hi8 (x : Int32) : Int32 := lo8 (x >>> ((8 : Int32) &&& 31))
/-- what StringUTF16.getChar makes of two bytes -/
def pairCh (u v : Int32) : Int32 := (((u &&& 255) <<< ((0 : Int32) &&& 31)) ||| ((v &&& 255) <<< ((8 : Int32) &&& 31))).toUInt32.toUInt16.toUInt32.toInt32
theorem lo8_and (x : Int32) : (lo8 x &&& 255).toBitVec.toNat = x.toBitVec.toNat % 256 := by
  have h : (lo8 x).toBitVec = (x.toBitVec.signExtend 8).signExtend 32 := by rw [lo8, Int8.toBitVec_toInt32, Int32.toBitVec_toInt8]
  rw [Int32.toBitVec_and, BitVec.toNat_and, h]
  have e : ((x.toBitVec.signExtend 8).signExtend 32).toNat % 256 = x.toBitVec.toNat % 256 := by
    rw [BitVec.toNat_signExtend]
    have hlt := x.toBitVec.isLt
    simp only [BitVec.toNat_setWidth, BitVec.toNat_signExtend]
    split <;> split <;> omega
  rw [← e]
  exact Nat.and_two_pow_sub_one_eq_mod _ 8
theorem pair_says {c : Int32} (h0 : ¬ c < 0) (h1 : ¬ 65535 < c) : pairCh (lo8 c) (hi8 c) = c := by
  rw [Int32.lt_iff_toInt_lt] at h0 h1
  have e0 : (0 : Int32).toInt = 0 := rfl
  have e1 : (65535 : Int32).toInt = 65535 := rfl
  have hc : c.toInt = c.toBitVec.toNat := by
    have := c.toBitVec.isLt
    have e : c.toInt = c.toBitVec.toInt := rfl
    rw [e] at h0 h1
    rw [e]
    rw [BitVec.toInt_eq_toNat_cond] at h0 h1 ⊢
    split at h0 <;> split <;> omega
  have hn : c.toBitVec.toNat < 65536 := by omega
  have a1 := lo8_and c
  have a2 : (hi8 c &&& 255).toBitVec.toNat = c.toBitVec.toNat / 256 := by
    rw [hi8, lo8_and]
    have e : ((8 : Int32) &&& 31) = 8 := by decide
    rw [e, Int32.toBitVec_shiftRight]
    have e2 : ((8 : Int32).toBitVec.smod 32) = 8#32 := by decide
    rw [e2, BitVec.sshiftRight_eq', BitVec.toNat_sshiftRight_of_msb_false (by rw [BitVec.msb_eq_false_iff_two_mul_lt]; omega)]
    show c.toBitVec.toNat >>> 8 % 256 = _
    rw [Nat.shiftRight_eq_div_pow]
    omega
  unfold pairCh
  apply Int32.toBitVec_inj.mp
  apply BitVec.eq_of_toNat_eq
  have f0 : ((0 : Int32) &&& 31) = 0 := by decide
  have f8 : ((8 : Int32) &&& 31) = 8 := by decide
  rw [f0, f8]
  have g : (((lo8 c &&& 255) <<< (0 : Int32)) ||| ((hi8 c &&& 255) <<< (8 : Int32))).toBitVec.toNat = c.toBitVec.toNat := by
    rw [Int32.toBitVec_or, Int32.toBitVec_shiftLeft, Int32.toBitVec_shiftLeft]
    have s0 : ((0 : Int32).toBitVec.smod 32) = 0#32 := by decide
    have s8 : ((8 : Int32).toBitVec.smod 32) = 8#32 := by decide
    rw [s0, s8, BitVec.toNat_or]
    simp only [BitVec.shiftLeft_eq', BitVec.toNat_shiftLeft, a1, a2]
    show (c.toBitVec.toNat % 256) <<< 0 % 2 ^ 32 ||| (c.toBitVec.toNat / 256) <<< 8 % 2 ^ 32 = _
    rw [Nat.shiftLeft_zero, Nat.mod_eq_of_lt (show c.toBitVec.toNat % 256 < 2 ^ 32 by omega), Nat.mod_eq_of_lt (show (c.toBitVec.toNat / 256) <<< 8 < 2 ^ 32 by rw [Nat.shiftLeft_eq]; omega), Nat.or_comm, ← Nat.shiftLeft_add_eq_or_of_lt (by omega), Nat.shiftLeft_eq]
    omega
  show BitVec.toNat (((((lo8 c &&& 255) <<< (0 : Int32)) ||| ((hi8 c &&& 255) <<< (8 : Int32))).toBitVec.setWidth 16).setWidth 32) = _
  rw [BitVec.toNat_setWidth, BitVec.toNat_setWidth, g]
  omega
end StrChars
namespace StrChars
open Jvm Sem ClassFile Op Lib Jvm.Stand Jvm.Free.XT Jvm.Free.ALB Jvm.Free.JM Jvm.Free
open Jvm.Lib.Cold (StaticIs)
/-- the array's cell V codes the n chars f 0 .. f (n - 1) by the coder cd, as the JDK does: coder 1 just where some char is above 255 -/
def Cod (cd : Int32) (n : Nat) (f : Nat → Int32) (V : Cell) : Prop := (cd = 0 ∧ V.slots.size = n ∧ ∀ j, j < n → V.slots[j]? = some (.int (lo8 (f j))) ∧ ¬ 255 < f j) ∨ (cd = 1 ∧ V.slots.size = 2 * n ∧ (∀ j, j < n → V.slots[2 * j]? = some (.int (lo8 (f j))) ∧ V.slots[2 * j + 1]? = some (.int (hi8 (f j)))) ∧ ∃ j, j < n ∧ 255 < f j)
/-- **x is a String of the n chars f 0 .. f (n - 1)**, Latin-1 or UTF-16; its array at t has the cell V -/
def Txt (x t : Addr) (V : Cell) (cd : Int32) (n : Nat) (f : Nat → Int32) (U : State) : Prop := Exact "java/lang/String" x U ∧ Has x "java/lang/String" "value" "[B" (.ref t) U ∧ Has x "java/lang/String" "coder" "B" (.int cd) U ∧ XT.Arr .byte t V U ∧ Cod cd n f V ∧ ∀ j, j < n → ¬ f j < 0 ∧ ¬ 65535 < f j
theorem Txt.mv {x t : Addr} {V : Cell} {cd : Int32} {n : Nat} {f : Nat → Int32} {U U' : State} (h : Txt x t V cd n f U) (hal : U.vm.Alike U'.vm) (hh : U'.heap = U.heap) : Txt x t V cd n f U' := ⟨h.1.mv hal hh, h.2.1.mv hal hh, h.2.2.1.mv hal hh, h.2.2.2.1.mv hal hh, h.2.2.2.2⟩
end StrChars
namespace StrChars.Road
open Jvm Sem ClassFile Op Lib Jvm.Stand Jvm.Free Jvm.Free.XT
open Jvm.Lib.Cold (StaticIs)
theorem consq {a : Array Value} {s : State} {c : Jvm.Cond} {L : List Jvm.Cond} (h0 : c.before a s = true) (h : ∀ w ∈ L, w.before a s = true) : ∀ w ∈ c :: L, w.before a s = true := fun w hw => (List.mem_cons.mp hw).elim (fun e => e ▸ h0) (h w)
/-- the bytes of the chars cs, low before high -/
def wideBytes : List Int32 → List Value
  | [] => []
  | c :: cs => .int (lo8 c) :: .int (hi8 c) :: wideBytes cs
theorem wide_lo (d : Value) : ∀ (cs : List Int32) (j : Nat), j < cs.length → (wideBytes cs).getD (2 * j) d = .int (lo8 (cs.getD j 0))
  | [], j, h => absurd h (Nat.not_lt_zero j)
  | c :: cs, 0, _ => rfl
  | c :: cs, j + 1, h => by
    have q := wide_lo d cs j (by simpa using h)
    rw [show 2 * (j + 1) = 2 * j + 1 + 1 from by omega]
    simpa [wideBytes] using q
theorem wide_hi (d : Value) : ∀ (cs : List Int32) (j : Nat), j < cs.length → (wideBytes cs).getD (2 * j + 1) d = .int (hi8 (cs.getD j 0))
  | [], j, h => absurd h (Nat.not_lt_zero j)
  | c :: cs, 0, _ => rfl
  | c :: cs, j + 1, h => by
    have q := wide_hi d cs j (by simpa using h)
    rw [show 2 * (j + 1) + 1 = 2 * j + 1 + 1 + 1 from by omega]
    simpa [wideBytes] using q
theorem low_at (d : Value) (cs : List Int32) (j : Nat) (h : j < cs.length) : (cs.map fun c => Value.int (lo8 c)).getD j d = .int (lo8 (cs.getD j 0)) := by
  simp [List.getD_eq_getElem?_getD, h]
/-- an array of N2 bytes vs codes the chars cs by the coder cd -/
def CodA (cs : List Int32) (cd N2 : Int32) (vs : List Value) : Prop := (cd = 0 ∧ N2 = Int32.ofNat cs.length ∧ vs = (cs.map fun c => Value.int (lo8 c)) ∧ ∀ c ∈ cs, ¬ 255 < c) ∨ (cd = 1 ∧ N2 = Int32.ofNat (2 * cs.length) ∧ vs = wideBytes cs ∧ ∃ c ∈ cs, 255 < c)
theorem CodA.cod {cs : List Int32} {cd N2 : Int32} {vs : List Value} {V : Cell} (h : CodA cs cd N2 vs) (hn : 2 * cs.length < 2 ^ 31) (hs : V.slots.size = N2.toNatClampNeg) (hv : RoadKit.Has V vs (.int 0)) : Cod cd cs.length (fun j => cs.getD j 0) V := by
  rcases h with ⟨rfl, rfl, rfl, h⟩ | ⟨rfl, rfl, rfl, c, hc, hw⟩
  · rw [n32 (by omega)] at hs
    exact Or.inl ⟨rfl, hs, fun j hj => ⟨by rw [hv j (by omega), low_at _ _ _ hj], by
      have e : cs.getD j 0 = cs[j] := by simp [List.getD_eq_getElem?_getD, hj]
      show ¬ 255 < cs.getD j 0
      rw [e]; exact h _ (List.getElem_mem _)⟩⟩
  · rw [n32 (by omega)] at hs
    obtain ⟨j, hj, rfl⟩ := List.getElem_of_mem hc
    exact Or.inr ⟨rfl, hs, fun j hj => ⟨by rw [hv _ (by omega), wide_lo _ _ _ hj], by rw [hv _ (by omega), wide_hi _ _ _ hj]⟩, j, hj, by
      have e : cs.getD j 0 = cs[j] := by simp [List.getD_eq_getElem?_getD, hj]
      show 255 < cs.getD j 0
      rw [e]; exact hw⟩
/-- an object of exactly java/lang/String, its two fields found: as the laws ask it -/
theorem strObj {Z U : State} {a0 : Array Value} {kI : Nat} (wi : (Jvm.Cond.instantiable ST kI).before a0 Z = true) (al : Z.vm.Alike U.vm) {x : Addr} {v0 c0 : Value} (E : RoadKit.Exa Z U.heap x ST) (V : RoadKit.Fld Z U.heap x ST "value" "[B" v0) (C : RoadKit.Fld Z U.heap x ST "coder" "B" c0) :
    ∃ (D : Cell) (fV fC : Field), Blank ST x D U ∧ Found ST "value" "[B" fV U ∧ Found ST "coder" "B" fC U ∧ D.slots[fV.slot]? = some v0 ∧ D.slots[fC.slot]? = some c0 ∧ RoadKit.slotOf Z ST "value" "[B" = fV.slot ∧ RoadKit.slotOf Z ST "coder" "B" = fC.slot := by
  obtain ⟨D, cfV, kV, iV, fV, hD, gV, stV, knV, obV, asV, slV⟩ := V
  obtain ⟨D', cfC, kC, iC, fC, hD', gC, stC, -, -, asC, slC⟩ := C
  cases hD.symm.trans hD'
  obtain ⟨D2, kD, e1, e2, e3, e4, e5⟩ := E
  cases hD.symm.trans e1
  obtain ⟨c2, k2, i1, i2, i3, -⟩ := Cond.instantiable_spec wi
  cases e2.symm.trans i1
  cases e3.symm.trans i2
  obtain ⟨kU, u1, u2⟩ := al.2.2 _ _ e3
  exact ⟨D, fV, fC, ⟨hD, ⟨knV, fun q hq => by rw [hq] at obV; cases obV⟩, by rw [al.findClass]; exact e2, kU, u1, by rw [u2]; exact i3, by rw [u2]; exact e5 i3⟩, ⟨SBG.found_only al ⟨cfV, kV, iV, gV⟩, stV⟩, ⟨SBG.found_only al ⟨cfC, kC, iC, gC⟩, stC⟩, slV, slC, by simp [RoadKit.slotOf, gV], by simp [RoadKit.slotOf, gC]⟩
theorem sta_is {Z U : State} (al : Z.vm.Alike U.vm) {C n d : String} {v : Value} (S : RoadKit.Sta Z U.heap C n d v) : StaticIs U C n d v := by
  obtain ⟨cfS, iS, kS, fS, st, cS, t1, t2, t3, t4, t5, t6, t7⟩ := S
  exact StaticIs.there (s := { Z with heap := U.heap }) ⟨cfS, iS, kS, fS, st, cS, t1, t2, t3, t4, t5, (fun q => by rw [q] at t6; cases t6), t7⟩ al rfl
end StrChars.Road
namespace StrChars
open Jvm Sem ClassFile Op Lib Jvm.Stand Jvm.Free.XT Jvm.Free.ALB Jvm.Free.JM Jvm.Free
open Jvm.Lib.Cold (StaticIs)
/-- what place i of a byte[]'s cell holds -/
def yv (A : Cell) (i : Nat) : Int32 := match A.slots[i]? with | some (.int x) => x | _ => 0
theorem yv_get {a : Addr} {A : Cell} {U : State} (h : XT.Arr .byte a A U) (ht : Typed .byte A) {i : Nat} (hi : i < A.slots.size) : A.slots[i]? = some (.int (yv A i)) := by
  have e := Array.getElem?_eq_getElem hi
  have f := ht i _ e
  unfold yv; rw [e]
  generalize A.slots[i] = v at f
  cases v <;> simp [fits] at f ⊢
/-- the two arrays are equal, place for place -/
def EqC (A B : Cell) : Prop := A.slots.size = B.slots.size ∧ ∀ i, i < A.slots.size → yv A i = yv B i
/-- a boolean that says whether p -/
def Says01 (q : Prop) (r : Option Value) (s u : State) : Prop := ∃ v : Int32, r = some (.int v) ∧ u.heap = s.heap ∧ ((v = 1 ∧ q) ∨ (v = 0 ∧ ¬ q))
theorem Says01.mv {q : Prop} : ∀ r (U U' V V' : State), U'.heap = U.heap → V.vm.Alike V'.vm → V'.heap = V.heap → Says01 q r U V → Says01 q r U' V' :=
  fun r U U' V V' h1 _ h2 ⟨v, a, b, c⟩ => ⟨v, a, by rw [h1, h2]; exact b, c⟩
namespace LEq
def yN : MethodName := ⟨"java/lang/StringLatin1", "equals", "([B[B)Z"⟩
abbrev yB : ByteArray := jdk_43_method_13_code
theorem d0 : decode yB 0 = .ok (.aload_n 0, 1) := by decide +kernel
theorem d1 : decode yB 1 = .ok (.arraylength, 1) := by decide +kernel
theorem d2 : decode yB 2 = .ok (.aload_n 1, 1) := by decide +kernel
theorem d3 : decode yB 3 = .ok (.arraylength, 1) := by decide +kernel
theorem d4 : decode yB 4 = .ok (.if_icmp (.ne) 30, 3) := by decide +kernel
theorem d7 : decode yB 7 = .ok (.iconst 0, 1) := by decide +kernel
theorem d8 : decode yB 8 = .ok (.istore_n 2, 1) := by decide +kernel
theorem d9 : decode yB 9 = .ok (.iload_n 2, 1) := by decide +kernel
theorem d10 : decode yB 10 = .ok (.aload_n 0, 1) := by decide +kernel
theorem d11 : decode yB 11 = .ok (.arraylength, 1) := by decide +kernel
theorem d12 : decode yB 12 = .ok (.if_icmp (.ge) 20, 3) := by decide +kernel
theorem d15 : decode yB 15 = .ok (.aload_n 0, 1) := by decide +kernel
theorem d16 : decode yB 16 = .ok (.iload_n 2, 1) := by decide +kernel
theorem d17 : decode yB 17 = .ok (.baload, 1) := by decide +kernel
theorem d18 : decode yB 18 = .ok (.aload_n 1, 1) := by decide +kernel
theorem d19 : decode yB 19 = .ok (.iload_n 2, 1) := by decide +kernel
theorem d20 : decode yB 20 = .ok (.baload, 1) := by decide +kernel
theorem d21 : decode yB 21 = .ok (.if_icmp (.eq) 5, 3) := by decide +kernel
theorem d24 : decode yB 24 = .ok (.iconst 0, 1) := by decide +kernel
theorem d25 : decode yB 25 = .ok (.ireturn, 1) := by decide +kernel
theorem d26 : decode yB 26 = .ok (.iinc 2 1, 3) := by decide +kernel
theorem d29 : decode yB 29 = .ok (.goto (-20), 3) := by decide +kernel
theorem d32 : decode yB 32 = .ok (.iconst 1, 1) := by decide +kernel
theorem d33 : decode yB 33 = .ok (.ireturn, 1) := by decide +kernel
theorem d34 : decode yB 34 = .ok (.iconst 0, 1) := by decide +kernel
theorem d35 : decode yB 35 = .ok (.ireturn, 1) := by decide +kernel
def site : List Cond := []
def tab : Cond := tabOf yN yB 3 (some .boolean) site
def P (a : Addr) (A : Cell) (b : Addr) (B : Cell) (args : Array Value) (s : State) : Prop := args = #[.ref a, .ref b] ∧ XT.Arr .byte a A s ∧ Typed .byte A ∧ XT.Arr .byte b B s ∧ Typed .byte B
/-- whether two byte[] are equal, place for place -/
theorem law (l : Launch) (a : Addr) (A : Cell) (b : Addr) (B : Cell) : Law l yN 2 2 0 0 yB 3 (some .boolean) site (P a A b B) (Says01 (EqC A B)) [] 0 0 := by
  refine Law.of_walk (plainFor_of_name (by decide +kernel)) (by decide +kernel) (by decide +kernel) (by decide) (fun _ _ h => by rw [h.1]; rfl) (fun _ U U' hal hh h => ⟨h.1, h.2.1.mv hal hh, h.2.2.1, h.2.2.2.1.mv hal hh, h.2.2.2.2⟩) (fun r U U' V V' h1 hal h2 h => Says01.mv r U U' V V' h1 hal h2 h) ?_
  intro p e s m args below meth c s₁ X0 hexec hbytes hml hret hlk hnm hown hh0 W hP
  obtain ⟨rfl, hA, tA, hB, tB⟩ := hP
  have a31 := hA.2.2.2
  have b31 := hB.2.2.2
  have hA0 := hA.mv X0.warmed.alike hh0
  have hB0 := hB.mv X0.warmed.alike hh0
  have c1 : Steps p.tables e below (s₁.setTop (entryFrame m #[.ref a, .ref b] 3)) (s₁.setTop (mkF m 0 #[.val (.ref a), .val (.ref b), .unset] [])) := entry rfl
  have c2 : Steps p.tables e below (s₁.setTop (entryFrame m #[.ref a, .ref b] 3)) (s₁.setTop (mkF m 4 #[.val (.ref a), .val (.ref b), .unset] [.int (Int32.ofNat B.slots.size), .int (Int32.ofNat A.slots.size)])) := c1.trans (by
    refine XS.aloadN X0.here hexec rfl (hb hbytes d0) rfl rfl ?_
    refine X0.alen hexec hA0 rfl rfl (hb hbytes d1) ?_
    refine XS.aloadN X0.here hexec rfl (hb hbytes d2) rfl rfl ?_
    refine X0.alen hexec hB0 rfl rfl (hb hbytes d3) ?_
    exact Steps.refl _)
  by_cases hs : A.slots.size = B.slots.size
  · have c3 : Steps p.tables e below (s₁.setTop (entryFrame m #[.ref a, .ref b] 3)) (s₁.setTop (mkF m 9 #[.val (.ref a), .val (.ref b), .val (.int 0)] [])) := c2.trans (by
      refine XS.icmpNo X0.here hexec rfl (hb hbytes d4) rfl (ii_ne_f (by rw [hs])) ?_
      refine iconstV X0.here hexec rfl 0 (hb hbytes d7) (by decide) ?_
      refine XS.istoreN X0.here hexec rfl (hb hbytes d8) rfl rfl ?_
      exact Steps.refl _)
    have loop : ∀ (r i : Nat), i + r = A.slots.size → (∀ j, j < i → yv A j = yv B j) → Steps p.tables e below (s₁.setTop (entryFrame m #[.ref a, .ref b] 3)) (s₁.setTop (mkF m 9 #[.val (.ref a), .val (.ref b), .val (.int (Int32.ofNat i))] [])) → ∃ (pc : Nat) (Ls : Array Slot) (v : Int32), (pc = 25 ∨ pc = 33) ∧ ((v = 1 ∧ EqC A B) ∨ (v = 0 ∧ ¬ EqC A B)) ∧ Steps p.tables e below (s₁.setTop (entryFrame m #[.ref a, .ref b] 3)) (s₁.setTop (mkF m pc Ls [.int v])) := by
      intro r
      induction r with
      | zero =>
        intro i hi he cl
        exact ⟨33, _, 1, Or.inr rfl, Or.inl ⟨rfl, hs, fun j hj => he j (by omega)⟩, cl.trans (by
          refine XS.iloadN X0.here hexec rfl (hb hbytes d9) rfl ?_
          refine XS.aloadN X0.here hexec rfl (hb hbytes d10) rfl rfl ?_
          refine X0.alen hexec hA0 rfl rfl (hb hbytes d11) ?_
          refine XS.icmpYes X0.here hexec rfl (pc0 := 12) rfl (hb hbytes d12) rfl (ii_ge_t (nlt32 (by omega) (by omega))) (by decide) rfl ?_
          refine iconstV X0.here hexec rfl 1 (hb hbytes d32) (by decide) ?_
          exact Steps.refl _)⟩
      | succ r ih =>
        intro i hi he cl
        have c4 : Steps p.tables e below (s₁.setTop (entryFrame m #[.ref a, .ref b] 3)) (s₁.setTop (mkF m 21 #[.val (.ref a), .val (.ref b), .val (.int (Int32.ofNat i))] [.int (yv B i), .int (yv A i)])) := cl.trans (by
          refine XS.iloadN X0.here hexec rfl (hb hbytes d9) rfl ?_
          refine XS.aloadN X0.here hexec rfl (hb hbytes d10) rfl rfl ?_
          refine X0.alen hexec hA0 rfl rfl (hb hbytes d11) ?_
          refine XS.icmpNo X0.here hexec rfl (hb hbytes d12) rfl (ii_ge_f (lt32 (by omega) (by omega))) ?_
          refine XS.aloadN X0.here hexec rfl (hb hbytes d15) rfl rfl ?_
          refine XS.iloadN X0.here hexec rfl (hb hbytes d16) rfl ?_
          refine X0.aget hexec hA0 rfl (yv_get hA tA (i := i) (by omega)) rfl rfl (hb hbytes d17) ?_
          refine XS.aloadN X0.here hexec rfl (hb hbytes d18) rfl rfl ?_
          refine XS.iloadN X0.here hexec rfl (hb hbytes d19) rfl ?_
          refine X0.aget hexec hB0 rfl (yv_get hB tB (i := i) (by omega)) rfl rfl (hb hbytes d20) ?_
          exact Steps.refl _)
        by_cases hv : yv A i = yv B i
        · have c5 : Steps p.tables e below (s₁.setTop (entryFrame m #[.ref a, .ref b] 3)) (s₁.setTop (mkF m 9 #[.val (.ref a), .val (.ref b), .val (.int (Int32.ofNat i + 1))] [])) := c4.trans (by
            refine XS.icmpYes X0.here hexec rfl (pc0 := 21) rfl (hb hbytes d21) rfl (ii_eq_t hv) (by decide) rfl ?_
            refine iincV X0.here hexec rfl 1 (hb hbytes d26) (by decide) rfl rfl ?_
            refine XS.goto X0.here hexec rfl (pc0 := 29) rfl (hb hbytes d29) (by decide) rfl ?_
            exact Steps.refl _)
          rw [succ32] at c5
          exact ih (i + 1) (by omega) (fun j hj => by
            by_cases e : j = i
            · rw [e]; exact hv
            · exact he j (by omega)) c5
        · exact ⟨25, _, 0, Or.inl rfl, Or.inr ⟨rfl, fun q => hv (q.2 i (by omega))⟩, c4.trans (by
            refine XS.icmpNo X0.here hexec rfl (hb hbytes d21) rfl (ii_eq_f hv) ?_
            refine iconstV X0.here hexec rfl 0 (hb hbytes d24) (by decide) ?_
            exact Steps.refl _)⟩
    obtain ⟨pc, Ls, v, hpc, hv, cz⟩ := loop A.slots.size 0 (by omega) (fun j hj => absurd hj (Nat.not_lt_zero j)) c3
    have nv : narrow .boolean (.int v) = .int v := by rcases hv with ⟨rfl, -⟩ | ⟨rfl, -⟩ <;> rfl
    rcases hpc with rfl | rfl
    · exact ⟨s₁, some (.int v), _, _, _, X0, rfl, rfl, rfl, (fun h => by cases h), ⟨v, rfl, hh0, hv⟩, fun fs hl => cz.trans (X0.ireturnOut hexec hret nv (Or.inr (Or.inl rfl)) (hb hbytes d25) hl)⟩
    · exact ⟨s₁, some (.int v), _, _, _, X0, rfl, rfl, rfl, (fun h => by cases h), ⟨v, rfl, hh0, hv⟩, fun fs hl => cz.trans (X0.ireturnOut hexec hret nv (Or.inr (Or.inl rfl)) (hb hbytes d33) hl)⟩
  · have c3 : Steps p.tables e below (s₁.setTop (entryFrame m #[.ref a, .ref b] 3)) (s₁.setTop (mkF m 35 #[.val (.ref a), .val (.ref b), .unset] [.int 0])) := c2.trans (by
      refine XS.icmpYes X0.here hexec rfl (pc0 := 4) rfl (hb hbytes d4) rfl (ii_ne_t (ne32 a31 b31 hs)) (by decide) rfl ?_
      refine iconstV X0.here hexec rfl 0 (hb hbytes d34) (by decide) ?_
      exact Steps.refl _)
    exact ⟨s₁, some (.int 0), _, _, _, X0, rfl, rfl, rfl, (fun h => by cases h), ⟨0, rfl, hh0, Or.inr ⟨rfl, fun q => hs q.1⟩⟩, fun fs hl => c3.trans (X0.ireturnOut hexec hret rfl (Or.inr (Or.inl rfl)) (hb hbytes d35) hl)⟩
end LEq
theorem Cod.ty {cd : Int32} {n : Nat} {f : Nat → Int32} {V : Cell} (h : Cod cd n f V) : Typed .byte V := fun i v hv => by
  have hi : i < V.slots.size := (Array.getElem?_eq_some_iff.mp hv).1
  rcases h with ⟨-, k1, k2⟩ | ⟨-, k1, k2, -⟩
  · rw [(k2 i (by omega)).1] at hv; cases hv; exact fits_lo8 _
  · rcases Nat.mod_two_eq_zero_or_one i with e | e
    · obtain ⟨j, rfl⟩ : ∃ j, i = 2 * j := ⟨i / 2, by omega⟩
      rw [(k2 j (by omega)).1] at hv; cases hv; exact fits_lo8 _
    · obtain ⟨j, rfl⟩ : ∃ j, i = 2 * j + 1 := ⟨i / 2, by omega⟩
      rw [(k2 j (by omega)).2] at hv; cases hv; exact fits_lo8 _
/-- the same text -/
def SameT (n : Nat) (f : Nat → Int32) (k : Nat) (g : Nat → Int32) : Prop := n = k ∧ ∀ j, j < n → f j = g j
theorem lo8_inj {x y : Int32} (h0 : ¬ x < 0) (h1 : ¬ 255 < x) (k0 : ¬ y < 0) (k1 : ¬ 255 < y) (h : lo8 x = lo8 y) : x = y := by
  rw [← lo8_mask h0 h1, ← lo8_mask k0 k1, h]
/-- arrays coded by one coder are equal just where the texts are -/
theorem Cod.eqv {cd : Int32} {n k : Nat} {f g : Nat → Int32} {V V' : Cell} (h : Cod cd n f V) (h' : Cod cd k g V') (hf : ∀ j, j < n → ¬ f j < 0 ∧ ¬ 65535 < f j) (hg : ∀ j, j < k → ¬ g j < 0 ∧ ¬ 65535 < g j) : EqC V V' ↔ SameT n f k g := by
  have yvv : ∀ {W : Cell} {i : Nat} {x : Int32}, W.slots[i]? = some (.int x) → yv W i = x := fun q => by unfold yv; rw [q]
  rcases h with ⟨rfl, k1, k2⟩ | ⟨rfl, k1, k2, -⟩
  · rcases h' with ⟨-, m1, m2⟩ | ⟨e, -⟩
    · constructor
      · rintro ⟨e1, e2⟩
        refine ⟨by omega, fun j hj => ?_⟩
        have q := e2 j (by omega)
        rw [yvv (k2 j hj).1, yvv (m2 j (by omega)).1] at q
        exact lo8_inj (hf j hj).1 (k2 j hj).2 (hg j (by omega)).1 (m2 j (by omega)).2 q
      · rintro ⟨rfl, e2⟩
        refine ⟨by omega, fun j hj => ?_⟩
        rw [yvv (k2 j (by omega)).1, yvv (m2 j (by omega)).1, e2 j (by omega)]
    · exact absurd e (by decide)
  · rcases h' with ⟨e, -⟩ | ⟨-, m1, m2, -⟩
    · exact absurd e (by decide)
    · constructor
      · rintro ⟨e1, e2⟩
        refine ⟨by omega, fun j hj => ?_⟩
        have q1 := e2 (2 * j) (by omega)
        have q2 := e2 (2 * j + 1) (by omega)
        rw [yvv (k2 j hj).1, yvv (m2 j (by omega)).1] at q1
        rw [yvv (k2 j hj).2, yvv (m2 j (by omega)).2] at q2
        rw [← pair_says (hf j hj).1 (hf j hj).2, ← pair_says (hg j (by omega)).1 (hg j (by omega)).2, q1, q2]
      · rintro ⟨rfl, e2⟩
        refine ⟨by omega, fun i hi => ?_⟩
        rcases Nat.mod_two_eq_zero_or_one i with e | e
        · obtain ⟨j, rfl⟩ : ∃ j, i = 2 * j := ⟨i / 2, by omega⟩
          rw [yvv (k2 j (by omega)).1, yvv (m2 j (by omega)).1, e2 j (by omega)]
        · obtain ⟨j, rfl⟩ : ∃ j, i = 2 * j + 1 := ⟨i / 2, by omega⟩
          rw [yvv (k2 j (by omega)).2, yvv (m2 j (by omega)).2, e2 j (by omega)]
/-- two codings differ: so do the texts -/
theorem Cod.dif {cd cd' : Int32} {n k : Nat} {f g : Nat → Int32} {V V' : Cell} (h : Cod cd n f V) (h' : Cod cd' k g V') (hne : ¬ cd = cd') : ¬ SameT n f k g := by
  rintro ⟨rfl, e⟩
  rcases h with ⟨rfl, -, k2⟩ | ⟨rfl, -, -, j, hj, hw⟩
  · rcases h' with ⟨rfl, -⟩ | ⟨-, -, -, j, hj, hw⟩
    · exact hne rfl
    · exact (k2 j hj).2 (by rw [e j hj]; exact hw)
  · rcases h' with ⟨-, -, m2⟩ | ⟨rfl, -⟩
    · exact (m2 j hj).2 (by rw [← e j hj]; exact hw)
    · exact hne rfl
/-- an object of exactly C is an instance of C -/
theorem cinst {p : Program} {l : Launch} {e : Env} {R : Room} {s : State} {m : MethodId} {args : Array Value} {below : List Frame} {meth : Method} {c : Code} {T : State} {locs : List Loc} {cells slots : Nat} (X : Stand p l e R s m args below meth c T locs cells slots) (hexec : p.tables.exec = Jvm.exec) {own C : String} {index : Nat} (hown : s.vm.findClass own = some m.cls) (hlink : (Cond.classLink own index C).before args s = true) {a : Addr} (hE : Exact C a T)
    {g : JFrame} (hg : g.method = m) {rest : List Value} (hstack : g.stack = .ref a :: rest) (hdg : decode c.code g.pc = .ok (.instanceof index, 3)) :
    ∃ T', Stand p l e R s m args below meth c T' locs cells slots ∧ T'.heap = T.heap ∧ ∀ target, Steps p.tables e below (T'.setTop { g with pc := g.pc + 3, stack := .int 1 :: rest }) target → Steps p.tables e below (T.setTop g) target := by
  obtain ⟨cB, h1, D, h2, h3, h4⟩ := hE
  have h1' : s.vm.findClass C = some cB := by rw [← X.warmed.alike.findClass]; exact h1
  obtain ⟨vm', X', st⟩ := X.instanceofYes hexec hown hlink h2 h4 h1' (by rw [h3]; exact Jvm.Free.SB.assignable_self _ _) hg hstack hdg
  exact ⟨_, X', rfl, st⟩
theorem cself {p : Program} {l : Launch} {e : Env} {R : Room} {s : State} {m : MethodId} {args : Array Value} {below : List Frame} {meth : Method} {c : Code} {T : State} {locs : List Loc} {cells slots : Nat} (X : Stand p l e R s m args below meth c T locs cells slots) (hexec : p.tables.exec = Jvm.exec) {own C : String} {index : Nat} (hown : s.vm.findClass own = some m.cls) (hlink : (Cond.classLink own index C).before args s = true) {a : Addr} (hE : Exact C a T)
    {g : JFrame} (hg : g.method = m) {rest : List Value} (hstack : g.stack = .ref a :: rest) (hdg : decode c.code g.pc = .ok (.checkcast index, 3)) :
    ∃ T', Stand p l e R s m args below meth c T' locs cells slots ∧ T'.heap = T.heap ∧ ∀ target, Steps p.tables e below (T'.setTop { g with pc := g.pc + 3, stack := .ref a :: rest }) target → Steps p.tables e below (T.setTop g) target := by
  obtain ⟨cB, h1, D, h2, h3, h4⟩ := hE
  have h1' : s.vm.findClass C = some cB := by rw [← X.warmed.alike.findClass]; exact h1
  obtain ⟨vm', X', st⟩ := X.checkcastYes hexec hown hlink h2 h4 h1' (by rw [h3]; exact Jvm.Free.SB.assignable_self _ _) hg hstack hdg
  exact ⟨_, X', rfl, fun t h => st t (by rw [← hstack] at h; exact h)⟩
namespace SEq
def yN : MethodName := ⟨"java/lang/String", "equals", "(Ljava/lang/Object;)Z"⟩
abbrev yB : ByteArray := jdk_42_method_66_code
theorem d0 : decode yB 0 = .ok (.aload_n 0, 1) := by decide +kernel
theorem d1 : decode yB 1 = .ok (.aload_n 1, 1) := by decide +kernel
theorem d2 : decode yB 2 = .ok (.if_acmp (.ne) 5, 3) := by decide +kernel
theorem d5 : decode yB 5 = .ok (.iconst 1, 1) := by decide +kernel
theorem d6 : decode yB 6 = .ok (.ireturn, 1) := by decide +kernel
theorem d7 : decode yB 7 = .ok (.aload_n 1, 1) := by decide +kernel
theorem d8 : decode yB 8 = .ok (.instanceof 10, 3) := by decide +kernel
theorem d11 : decode yB 11 = .ok (.ifCond (.eq) 43, 3) := by decide +kernel
theorem d14 : decode yB 14 = .ok (.aload_n 1, 1) := by decide +kernel
theorem d15 : decode yB 15 = .ok (.checkcast 10, 3) := by decide +kernel
theorem d18 : decode yB 18 = .ok (.astore_n 2, 1) := by decide +kernel
theorem d19 : decode yB 19 = .ok (.getstatic 38, 3) := by decide +kernel
theorem d22 : decode yB 22 = .ok (.ifCond (.eq) 14, 3) := by decide +kernel
theorem d25 : decode yB 25 = .ok (.aload_n 0, 1) := by decide +kernel
theorem d26 : decode yB 26 = .ok (.getfield 15, 3) := by decide +kernel
theorem d29 : decode yB 29 = .ok (.aload_n 2, 1) := by decide +kernel
theorem d30 : decode yB 30 = .ok (.getfield 15, 3) := by decide +kernel
theorem d33 : decode yB 33 = .ok (.if_icmp (.ne) 21, 3) := by decide +kernel
theorem d36 : decode yB 36 = .ok (.aload_n 0, 1) := by decide +kernel
theorem d37 : decode yB 37 = .ok (.getfield 9, 3) := by decide +kernel
theorem d40 : decode yB 40 = .ok (.aload_n 2, 1) := by decide +kernel
theorem d41 : decode yB 41 = .ok (.getfield 9, 3) := by decide +kernel
theorem d44 : decode yB 44 = .ok (.invokestatic 541, 3) := by decide +kernel
theorem d47 : decode yB 47 = .ok (.ifCond (.eq) 7, 3) := by decide +kernel
theorem d50 : decode yB 50 = .ok (.iconst 1, 1) := by decide +kernel
theorem d51 : decode yB 51 = .ok (.goto 4, 3) := by decide +kernel
theorem d54 : decode yB 54 = .ok (.iconst 0, 1) := by decide +kernel
theorem d55 : decode yB 55 = .ok (.ireturn, 1) := by decide +kernel
def site : List Cond := [.classLink "java/lang/String" 10 "java/lang/String", .fieldLink "java/lang/String" 38 "java/lang/String" "COMPACT_STRINGS" "Z", .fieldLink "java/lang/String" 15 "java/lang/String" "coder" "B", .fieldLink "java/lang/String" 9 "java/lang/String" "value" "[B", LEq.tab] ++ staticW "java/lang/String" 541 LEq.yN
def tab : Cond := tabOf yN yB 3 (some .boolean) site
def P (x t : Addr) (V : Cell) (cd : Int32) (n : Nat) (f : Nat → Int32) (y t' : Addr) (V' : Cell) (cd' : Int32) (k : Nat) (g : Nat → Int32) (z : Int32) (args : Array Value) (s : State) : Prop := args = #[.ref x, .ref y] ∧ Txt x t V cd n f s ∧ Txt y t' V' cd' k g s ∧ StaticIs s "java/lang/String" "COMPACT_STRINGS" "Z" (.int z) ∧ ¬ z = 0
/-- equals(Object) of two Strings: whether the texts are the same -/
theorem law (l : Launch) (x t : Addr) (V : Cell) (cd : Int32) (n : Nat) (f : Nat → Int32) (y t' : Addr) (V' : Cell) (cd' : Int32) (k : Nat) (g : Nat → Int32) (z : Int32) : Law l yN 2 1 1 14 yB 3 (some .boolean) site (P x t V cd n f y t' V' cd' k g z) (Says01 (SameT n f k g)) [] 0 0 := by
  refine Law.of_walk (plainFor_of_name (by decide +kernel)) (by decide +kernel) (by decide +kernel) (by decide) (fun _ _ h => by rw [h.1]; rfl) (fun _ U U' hal hh h => ⟨h.1, h.2.1.mv hal hh, h.2.2.1.mv hal hh, h.2.2.2.1.there hal hh, h.2.2.2.2⟩) (fun r U U' V V' h1 hal h2 h => Says01.mv r U U' V V' h1 hal h2 h) ?_
  intro p e s m args below meth c s₁ X0 hexec hbytes hml hret hlk hnm hown hh0 W hP
  obtain ⟨rfl, hx, hy, s1, hz⟩ := hP
  have c1 : Steps p.tables e below (s₁.setTop (entryFrame m #[.ref x, .ref y] 3)) (s₁.setTop (mkF m 2 #[.val (.ref x), .val (.ref y), .unset] [.ref y, .ref x])) := Steps.trans (entry rfl) (by
    show Steps p.tables e below (s₁.setTop (mkF m 0 #[.val (.ref x), .val (.ref y), .unset] [])) _
    refine XS.aloadN X0.here hexec rfl (hb hbytes d0) rfl rfl ?_
    refine XS.aloadN X0.here hexec rfl (hb hbytes d1) rfl rfl ?_
    exact Steps.refl _)
  by_cases hxy : x = y
  · have c2 : Steps p.tables e below (s₁.setTop (entryFrame m #[.ref x, .ref y] 3)) (s₁.setTop (mkF m 6 #[.val (.ref x), .val (.ref y), .unset] [.int 1])) := c1.trans (by
      refine acmpNo X0.here hexec rfl (hb hbytes d2) rfl rfl rfl (by simp [acmp, hxy]) ?_
      refine iconstV X0.here hexec rfl 1 (hb hbytes d5) (by decide) ?_
      exact Steps.refl _)
    subst hxy
    have ec : cd = cd' := by
      obtain ⟨D, fd, a1, a2, a3⟩ := hx.2.2.1
      obtain ⟨D', fd', b1, b2, b3⟩ := hy.2.2.1
      cases a1.symm.trans b1
      obtain ⟨q1, q2, q3, q4⟩ := a2.1
      obtain ⟨r1, r2, r3, r4⟩ := b2.1
      cases q4.symm.trans r4
      cases a3.symm.trans b3; rfl
    have et : t = t' := by
      obtain ⟨D, fd, a1, a2, a3⟩ := hx.2.1
      obtain ⟨D', fd', b1, b2, b3⟩ := hy.2.1
      cases a1.symm.trans b1
      obtain ⟨q1, q2, q3, q4⟩ := a2.1
      obtain ⟨r1, r2, r3, r4⟩ := b2.1
      cases q4.symm.trans r4
      cases a3.symm.trans b3; rfl
    subst ec et
    have ev : V = V' := by cases hx.2.2.2.1.1.symm.trans hy.2.2.2.1.1; rfl
    subst ev
    have hs : SameT n f k g := (Cod.eqv hx.2.2.2.2.1 hy.2.2.2.2.1 hx.2.2.2.2.2 hy.2.2.2.2.2).mp ⟨rfl, fun _ _ => rfl⟩
    exact ⟨s₁, some (.int 1), _, _, _, X0, rfl, rfl, rfl, (fun h => by cases h), ⟨1, rfl, hh0, Or.inl ⟨rfl, hs⟩⟩, fun fs hl => c2.trans (X0.ireturnOut hexec hret rfl (Or.inr (Or.inl rfl)) (hb hbytes d6) hl)⟩
  · have c2 : Steps p.tables e below (s₁.setTop (entryFrame m #[.ref x, .ref y] 3)) (s₁.setTop (mkF m 8 #[.val (.ref x), .val (.ref y), .unset] [.ref y])) := c1.trans (by
      refine acmpYes X0.here hexec rfl (pc0 := 2) rfl (hb hbytes d2) rfl rfl rfl (by simp [acmp, hxy]) (by decide) rfl ?_
      refine XS.aloadN X0.here hexec rfl (hb hbytes d7) rfl rfl ?_
      exact Steps.refl _)
    obtain ⟨T3, X3, q3, st3⟩ := cinst X0 hexec hown (wk W (.classLink "java/lang/String" 10 "java/lang/String")) (hy.mv X0.warmed.alike hh0).1 (g := (mkF m 8 #[.val (.ref x), .val (.ref y), .unset] [.ref y])) rfl (rest := []) rfl (hb hbytes d8)
    have hh3 := q3.trans hh0
    have c4 : Steps p.tables e below (s₁.setTop (entryFrame m #[.ref x, .ref y] 3)) (T3.setTop (mkF m 15 #[.val (.ref x), .val (.ref y), .unset] [.ref y])) := (c2.trans (st3 _ (Steps.refl _))).trans (by
      refine XS.ifNo X3.here hexec rfl (hb hbytes d11) rfl (i0_eq_f (by decide)) ?_
      refine XS.aloadN X3.here hexec rfl (hb hbytes d14) rfl rfl ?_
      exact Steps.refl _)
    obtain ⟨T5, X5, q5, st5⟩ := cself X3 hexec hown (wk W (.classLink "java/lang/String" 10 "java/lang/String")) (hy.mv X3.warmed.alike hh3).1 (g := (mkF m 15 #[.val (.ref x), .val (.ref y), .unset] [.ref y])) rfl (rest := []) rfl (hb hbytes d15)
    have hh5 := q5.trans hh3
    have c6 : Steps p.tables e below (s₁.setTop (entryFrame m #[.ref x, .ref y] 3)) (T5.setTop (mkF m 19 #[.val (.ref x), .val (.ref y), .val (.ref y)] [])) := (c4.trans (st5 _ (Steps.refl _))).trans (by
      refine XS.astoreN X5.here hexec rfl (hb hbytes d18) rfl rfl rfl ?_
      exact Steps.refl _)
    obtain ⟨T7, X7, q7, st7⟩ := X5.sget hexec hown (wk W (.fieldLink "java/lang/String" 38 "java/lang/String" "COMPACT_STRINGS" "Z")) s1 (fun _ _ h => by rw [hh5]; exact h) (g := (mkF m 19 #[.val (.ref x), .val (.ref y), .val (.ref y)] [])) rfl (hb hbytes d19)
    have hh7 := q7.trans hh5
    have c8 : Steps p.tables e below (s₁.setTop (entryFrame m #[.ref x, .ref y] 3)) (T7.setTop (mkF m 26 #[.val (.ref x), .val (.ref y), .val (.ref y)] [.ref x])) := (c6.trans (st7 _ (Steps.refl _))).trans (by
      refine XS.ifNo X7.here hexec rfl (hb hbytes d22) rfl (i0_eq_f hz) ?_
      refine XS.aloadN X7.here hexec rfl (hb hbytes d25) rfl rfl ?_
      exact Steps.refl _)
    obtain ⟨T9, X9, q9, st9⟩ := X7.hget hexec hown (wk W (.fieldLink "java/lang/String" 15 "java/lang/String" "coder" "B")) (hx.mv X7.warmed.alike hh7).2.2.1 (g := (mkF m 26 #[.val (.ref x), .val (.ref y), .val (.ref y)] [.ref x])) rfl (rest := []) rfl (hb hbytes d26)
    have hh9 := q9.trans hh7
    have c10 : Steps p.tables e below (s₁.setTop (entryFrame m #[.ref x, .ref y] 3)) (T9.setTop (mkF m 30 #[.val (.ref x), .val (.ref y), .val (.ref y)] [.ref y, .int cd])) := (c8.trans (st9 _ (Steps.refl _))).trans (by
      refine XS.aloadN X9.here hexec rfl (hb hbytes d29) rfl rfl ?_
      exact Steps.refl _)
    obtain ⟨T11, X11, q11, st11⟩ := X9.hget hexec hown (wk W (.fieldLink "java/lang/String" 15 "java/lang/String" "coder" "B")) (hy.mv X9.warmed.alike hh9).2.2.1 (g := (mkF m 30 #[.val (.ref x), .val (.ref y), .val (.ref y)] [.ref y, .int cd])) rfl (rest := [.int cd]) rfl (hb hbytes d30)
    have hh11 := q11.trans hh9
    have c12 : Steps p.tables e below (s₁.setTop (entryFrame m #[.ref x, .ref y] 3)) (T11.setTop (mkF m 33 #[.val (.ref x), .val (.ref y), .val (.ref y)] [.int cd', .int cd])) := c10.trans (st11 _ (Steps.refl _))
    by_cases hcd : cd = cd'
    · subst hcd
      have c13 : Steps p.tables e below (s₁.setTop (entryFrame m #[.ref x, .ref y] 3)) (T11.setTop (mkF m 37 #[.val (.ref x), .val (.ref y), .val (.ref y)] [.ref x])) := c12.trans (by
        refine XS.icmpNo X11.here hexec rfl (hb hbytes d33) rfl (ii_ne_f rfl) ?_
        refine XS.aloadN X11.here hexec rfl (hb hbytes d36) rfl rfl ?_
        exact Steps.refl _)
      obtain ⟨T14, X14, q14, st14⟩ := X11.hget hexec hown (wk W (.fieldLink "java/lang/String" 9 "java/lang/String" "value" "[B")) (hx.mv X11.warmed.alike hh11).2.1 (g := (mkF m 37 #[.val (.ref x), .val (.ref y), .val (.ref y)] [.ref x])) rfl (rest := []) rfl (hb hbytes d37)
      have hh14 := q14.trans hh11
      have c15 : Steps p.tables e below (s₁.setTop (entryFrame m #[.ref x, .ref y] 3)) (T14.setTop (mkF m 41 #[.val (.ref x), .val (.ref y), .val (.ref y)] [.ref y, .ref t])) := (c13.trans (st14 _ (Steps.refl _))).trans (by
        refine XS.aloadN X14.here hexec rfl (hb hbytes d40) rfl rfl ?_
        exact Steps.refl _)
      obtain ⟨T16, X16, q16, st16⟩ := X14.hget hexec hown (wk W (.fieldLink "java/lang/String" 9 "java/lang/String" "value" "[B")) (hy.mv X14.warmed.alike hh14).2.1 (g := (mkF m 41 #[.val (.ref x), .val (.ref y), .val (.ref y)] [.ref y, .ref t])) rfl (rest := [.ref t]) rfl (hb hbytes d41)
      have hh16 := q16.trans hh14
      have c17 : Steps p.tables e below (s₁.setTop (entryFrame m #[.ref x, .ref y] 3)) (T16.setTop (mkF m 44 #[.val (.ref x), .val (.ref y), .val (.ref y)] [.ref t', .ref t])) := c15.trans (st16 _ (Steps.refl _))
      obtain ⟨v18, T18, X18, E18, g18⟩ := X16.callS hexec (LEq.law l t V t' V') hown (wks W (staticW "java/lang/String" 541 LEq.yN)) (wk W LEq.tab) (W := 0) (Nat.le_of_ble_eq_true rfl) (Nat.le_of_ble_eq_true rfl) (Nat.le_refl _) (Nat.le_refl _) (g := (mkF m 44 #[.val (.ref x), .val (.ref y), .val (.ref y)] [.ref t', .ref t])) rfl (by rw [hml]; rfl) c17 (argsL := [.ref t, .ref t']) (rest := []) rfl rfl (by show 2 * 0 + 0 ≤ _; decide) (hb hbytes d44) (⟨rfl, hx.2.2.2.1.mv X16.warmed.alike hh16, hx.2.2.2.2.1.ty, hy.2.2.2.1.mv X16.warmed.alike hh16, hy.2.2.2.2.1.ty⟩)
      obtain ⟨v, rfl, q18, hv⟩ := E18
      have iff := Cod.eqv hx.2.2.2.2.1 hy.2.2.2.2.1 hx.2.2.2.2.2 hy.2.2.2.2.2
      rcases hv with ⟨rfl, he⟩ | ⟨rfl, he⟩
      · have c19 : Steps p.tables e below (s₁.setTop (entryFrame m #[.ref x, .ref y] 3)) (T18.setTop (mkF m 55 #[.val (.ref x), .val (.ref y), .val (.ref y)] [.int 1])) := Steps.trans g18 (by
          refine XS.ifNo X18.here hexec rfl (hb hbytes d47) rfl (i0_eq_f (by decide)) ?_
          refine iconstV X18.here hexec rfl 1 (hb hbytes d50) (by decide) ?_
          refine XS.goto X18.here hexec rfl (pc0 := 51) rfl (hb hbytes d51) (by decide) rfl ?_
          exact Steps.refl _)
        exact ⟨T18, some (.int 1), _, _, _, X18, rfl, rfl, rfl, (fun h => by cases h), ⟨1, rfl, q18.trans hh16, Or.inl ⟨rfl, iff.mp he⟩⟩, fun fs hl => c19.trans (X18.ireturnOut hexec hret rfl (Or.inr (Or.inl rfl)) (hb hbytes d55) hl)⟩
      · have c19 : Steps p.tables e below (s₁.setTop (entryFrame m #[.ref x, .ref y] 3)) (T18.setTop (mkF m 55 #[.val (.ref x), .val (.ref y), .val (.ref y)] [.int 0])) := Steps.trans g18 (by
          refine XS.ifYes X18.here hexec rfl (pc0 := 47) rfl (hb hbytes d47) rfl (i0_eq_t rfl) (by decide) rfl ?_
          refine iconstV X18.here hexec rfl 0 (hb hbytes d54) (by decide) ?_
          exact Steps.refl _)
        exact ⟨T18, some (.int 0), _, _, _, X18, rfl, rfl, rfl, (fun h => by cases h), ⟨0, rfl, q18.trans hh16, Or.inr ⟨rfl, fun q => he (iff.mpr q)⟩⟩, fun fs hl => c19.trans (X18.ireturnOut hexec hret rfl (Or.inr (Or.inl rfl)) (hb hbytes d55) hl)⟩
    · have c13 : Steps p.tables e below (s₁.setTop (entryFrame m #[.ref x, .ref y] 3)) (T11.setTop (mkF m 55 #[.val (.ref x), .val (.ref y), .val (.ref y)] [.int 0])) := c12.trans (by
        refine XS.icmpYes X11.here hexec rfl (pc0 := 33) rfl (hb hbytes d33) rfl (ii_ne_t hcd) (by decide) rfl ?_
        refine iconstV X11.here hexec rfl 0 (hb hbytes d54) (by decide) ?_
        exact Steps.refl _)
      exact ⟨T11, some (.int 0), _, _, _, X11, rfl, rfl, rfl, (fun h => by cases h), ⟨0, rfl, hh11, Or.inr ⟨rfl, Cod.dif hx.2.2.2.2.1 hy.2.2.2.2.1 hcd⟩⟩, fun fs hl => c13.trans (X11.ireturnOut hexec hret rfl (Or.inr (Or.inl rfl)) (hb hbytes d55) hl)⟩
theorem pays {l : Launch} {R : Room} {p : Program} {e : Env} {below : List Frame} {s : State} {sargs : Array Value} {len W : Nat} (x t : Addr) (V : Cell) (cd : Int32) (n : Nat) (f : Nat → Int32) (y t' : Addr) (V' : Cell) (cd' : Int32) (k : Nat) (g : Nat → Int32) (z : Int32) (htab : tab.before sargs s = true) (hfr : 2 ≤ R.frames) (hlo : W + 28 ≤ R.locals) :
    Back l R p e below s sargs yN len W (fun A₁ a₁ => A₁.cells + 0 ≤ R.cells ∧ A₁.slots + 0 ≤ R.slots ∧ P x t V cd n f y t' V' cd' k g z a₁ A₁.U) (fun A₁ _ v₁ B₁ => Says01 (SameT n f k g) v₁ A₁.U B₁.U ∧ B₁.locs = A₁.locs ++ [] ∧ B₁.cells = A₁.cells + 0 ∧ B₁.slots = A₁.slots + 0) :=
  (law l x t V cd n f y t' V' cd' k g z).pays htab hfr (by omega)
end SEq
end StrChars
namespace StrChars.Road
open Jvm Sem ClassFile Op Lib Jvm.Stand Jvm.Free Jvm.Free.XT
open Jvm.Lib.Cold (StaticIs)
/-- the words of String.equals(Object) -/
abbrev wordsEq : List Jvm.Cond := [.code SEq.yN SEq.yB 3 (some .boolean), .initialized ST, .classLink ST 10 ST, .fieldLink ST 38 ST "COMPACT_STRINGS" "Z", .fieldLink ST 15 ST "coder" "B", .fieldLink ST 9 ST "value" "[B", .methodLink ST 541 LEq.yN, .static LEq.yN, .code LEq.yN LEq.yB 3 (some .boolean), .initialized "java/lang/StringLatin1"]
theorem tabEq_of {a : Array Value} {s : State} (h : ∀ w ∈ wordsEq, w.before a s = true) : SEq.tab.before a s = true := by
  have hl : LEq.tab.before a s = true := unparts (wk h (.code LEq.yN LEq.yB 3 (some .boolean))) (wks h (.initialized LEq.yN.cls :: LEq.site))
  have q := consq hl h
  exact unparts (wk q (.code SEq.yN SEq.yB 3 (some .boolean))) (wks q (.initialized SEq.yN.cls :: SEq.site))
theorem movedEq {Z s : State} {a0 args : Array Value} (hZ : Z.Warmed39 s.vm) (hw : ∀ d ∈ wordsEq, d.before a0 Z = true) : ∀ d ∈ wordsEq, d.before args s = true := fun d hd => by
  have t : ∀ d ∈ wordsEq, (d.onTables && d.keepsFace) = true := by decide +kernel
  exact RoadKit.mv hZ (hw d hd) (t d hd)
/-- the road's facts of a String, as the laws ask it -/
theorem txt_of {Z U : State} {a0 : Array Value} {kI : Nat} (wi : (Jvm.Cond.instantiable ST kI).before a0 Z = true) (al : Z.vm.Alike U.vm) {x t : Addr} {kb : ClassId} {cs : List Int32} {cd N2 : Int32} {vs : List Value} (E : RoadKit.Exa Z U.heap x ST) (V : RoadKit.Fld Z U.heap x ST "value" "[B" (.ref t)) (C : RoadKit.Fld Z U.heap x ST "coder" "B" (.int cd)) (K : RoadKit.Arv Z U.heap t kb .byte N2 vs (.int 0)) (hc : CodA cs cd N2 vs) (hb : ∀ c ∈ cs, ¬ c < 0 ∧ ¬ (65535 : Int32) < c) (l2 : cs.length ≤ 4000) :
    ∃ A, Txt x t A cd cs.length (fun j => cs.getD j 0) U := by
  obtain ⟨A, K1, K2, K3, K4, K5, K6⟩ := K
  have hcod := hc.cod (by omega) K3 K5
  obtain ⟨D, fV, fC, hB, F1, F2, g1, g2, -, -⟩ := strObj wi al E V C
  exact ⟨A, ⟨_, hB.2.2.1, D, hB.1, rfl, by cases q : D.vm <;> first | rfl | exact absurd q (hB.2.1.2 _)⟩, Has.of hB F1 g1, Has.of hB F2 g2, ⟨K1.1, State.isArrayOf_alike al K1.2.1, K1.2.2, by rcases hcod with ⟨-, q, -⟩ | ⟨-, q, -⟩ <;> omega⟩, hcod, fun j hj => by
    have e : cs.getD j 0 = cs[j] := by simp [List.getD_eq_getElem?_getD, hj]
    show ¬ cs.getD j 0 < 0 ∧ ¬ 65535 < cs.getD j 0
    rw [e]; exact hb _ (List.getElem_mem _)⟩
theorem same_list (cs ds : List Int32) : SameT cs.length (fun j => cs.getD j 0) ds.length (fun j => ds.getD j 0) ↔ cs = ds := by
  constructor
  · rintro ⟨e, q⟩
    refine List.ext_getElem e fun j h1 h2 => ?_
    have := q j h1
    simpa [List.getD_eq_getElem?_getD, h1, h2] using this
  · rintro rfl
    exact ⟨rfl, fun _ _ => rfl⟩
/-- **equals(Object) OF TWO SUCH STRINGS**: 1 just where the chars are the same -/
theorem eqW {p : Program} {l : Launch} {e : Env} {R : Room} {s : State} {args : Array Value} {below : List Frame} {len W : Nat} {Z : State} {a0 : Array Value} {h : Heap} (hZ : Z.Warmed39 s.vm) (hw : ∀ d ∈ wordsEq, d.before a0 Z = true) {kI : Nat} (wi : (Jvm.Cond.instantiable ST kI).before a0 Z = true)
    {x t : Addr} {kb : ClassId} {cs : List Int32} {cd N2 : Int32} {vs : List Value} (E : RoadKit.Exa Z h x ST) (V : RoadKit.Fld Z h x ST "value" "[B" (.ref t)) (C : RoadKit.Fld Z h x ST "coder" "B" (.int cd)) (K : RoadKit.Arv Z h t kb .byte N2 vs (.int 0)) (hc : CodA cs cd N2 vs) (hb : ∀ c ∈ cs, ¬ c < 0 ∧ ¬ (65535 : Int32) < c) (l2 : cs.length ≤ 4000)
    {y t' : Addr} {kb' : ClassId} {ds : List Int32} {cd' N2' : Int32} {vs' : List Value} (E' : RoadKit.Exa Z h y ST) (V' : RoadKit.Fld Z h y ST "value" "[B" (.ref t')) (C' : RoadKit.Fld Z h y ST "coder" "B" (.int cd')) (K' : RoadKit.Arv Z h t' kb' .byte N2' vs' (.int 0)) (hc' : CodA ds cd' N2' vs') (hb' : ∀ c ∈ ds, ¬ c < 0 ∧ ¬ (65535 : Int32) < c) (l2' : ds.length ≤ 4000)
    {z : Int32} (S : RoadKit.Sta Z h ST "COMPACT_STRINGS" "Z" (.int z)) (hz : ¬ z = 0) (hfr : 2 ≤ R.frames) (hlo : W + 28 ≤ R.locals) :
    Back l R p e below s args (⟨"java/lang/String", "equals", "(Ljava/lang/Object;)Z"⟩ : MethodName) len W (fun P a => a = #[.ref x, .ref y] ∧ P.U.heap = h ∧ P.cells + 0 ≤ R.cells ∧ P.slots + 0 ≤ R.slots)
      (fun P _ v B => ∃ L, (((v = some (.int 1) ∧ cs = ds) ∨ (v = some (.int 0) ∧ ¬ cs = ds)) ∧ L = [] ∧ B.U.heap = h) ∧ B.locs = P.locs ++ L ∧ B.cells = P.cells + 0 ∧ B.slots = P.slots + 0) := by
  intro m meth c P g ig mk a X hg hsize hdg hW hn hp'
  obtain ⟨rfl, rfl, r1, r2⟩ := hp'
  have al : Z.vm.Alike P.U.vm := hZ.alike.trans X.warmed.alike
  obtain ⟨A, hx⟩ := txt_of wi al E V C K hc hb l2
  obtain ⟨A', hy⟩ := txt_of wi al E' V' C' K' hc' hb' l2'
  obtain ⟨v, B, X', ⟨⟨w, hv, hh, hq⟩, hl, hk, hs⟩, st⟩ := SEq.pays x t A cd cs.length (fun j => cs.getD j 0) y t' A' cd' ds.length (fun j => ds.getD j 0) z (tabEq_of (movedEq hZ hw)) hfr hlo m meth c P g ig mk _ X hg hsize hdg hW hn ⟨r1, r2, rfl, hx, hy, sta_is al S, hz⟩
  refine ⟨v, B, X', ⟨[], ⟨?_, rfl, hh⟩, hl, hk, hs⟩, st⟩
  rcases hq with ⟨rfl, q⟩ | ⟨rfl, q⟩
  · exact Or.inl ⟨hv, (same_list cs ds).mp q⟩
  · exact Or.inr ⟨hv, fun e => q ((same_list cs ds).mpr e)⟩
end StrChars.Road
namespace StrChars.Road
open Jvm Sem ClassFile Op Lib Jvm.Stand Jvm.Free Jvm.Free.XT
open Jvm.Lib.Cold (StaticIs)
/-- what backV says of its String, as the contracts of this text ask it: cs's low bytes, coder 0 -/
theorem codOf {cs : List Int32} {n : Nat} (hn : cs.length = n) (hb : ∀ c ∈ cs, ¬ 255 < c) : CodA cs 0 (Int32.ofNat n) ((cs.map lo8).map Value.int) := Or.inl ⟨rfl, by rw [hn], by simp [List.map_map, Function.comp_def], hb⟩
end StrChars.Road
end Jvm.Pilot.@@N@@

namespace Jvm.Pilot.@@N@@
open Jvm Jvm.ClassFile Sem Op Lib Jvm.Free Jvm.Stand Jvm.LawKit Jvm.RoadKit Bundle Jvm.Pilot.@@N@@.Jvm.D
namespace Ow
/-- from T with the top frame g the invocation comes to its end, and there Q holds -/
def Run (p : Program) (e : Env) (below : List Frame) (Q : Outcome → State → Prop) (T : State) (g : JFrame) : Prop :=
  ∃ s₂ o, Steps p.tables e below (T.setTop g) s₂ ∧ s₂.status = .running ∧ Ended s₂ below o ∧ Q o s₂
/-- x >>> y of a long -/
def ushJ (x : Int64) (y : Int32) : Int64 := (x.toUInt64 >>> (y &&& 0x3f).toInt64.toUInt64).toInt64
/-- what a walk that may intern keeps beside its Stand: nothing in it speaks of the state at hand but by its heap -/
def Rs (s : State) (m : MethodId) (Z : State) (EL : List (String × Nat)) (own : String) (h0 : Heap) (ws : List Addr) (vm0 : Vm) (k0 : Nat) (locs : List Loc) (h : Heap) (S : List Addr) : Prop :=
  s.Since vm0 k0 ∧ k0 ≤ h.size ∧ Z.Warmed39 vm0 ∧ vm0.findClass own = some m.cls ∧ CHr Z EL s.vm h0 vm0 h ∧ Fr Z.heap.size locs ∧ Keep h0 h ws ∧ Ext Z.heap h0 ∧ (∀ x ∈ ws, Z.heap.size ≤ x) ∧ ∀ x ∈ S, x < h.size ∧ Safe Z EL vm0 h x
/-- where a walk stands: its heap h, what it has made, and the addresses S that no constant books -/
def Wk (p : Program) (l : Launch) (e : Env) (R : Room) (s : State) (m : MethodId) (args : Array Value) (below : List Frame) (meth : Method) (c : Code) (Z : State) (EL : List (String × Nat)) (own : String) (h0 : Heap) (ws : List Addr)
    (T : State) (h : Heap) (cells slots : Nat) (S : List Addr) : Prop :=
  ∃ (vm0 : Vm) (k0 : Nat) (locs : List Loc), p.tables.exec = Jvm.exec ∧ Stand p l e R (s.setVm vm0) m args below meth c T locs cells slots ∧ T.heap = h ∧ Rs s m Z EL own h0 ws vm0 k0 locs h S
section Kit
variable {p : Program} {l : Launch} {e : Env} {R : Room} {s : State} {m : MethodId} {args : Array Value} {below : List Frame} {meth : Method} {c : Code} {Z : State} {a0 : Array Value} {EL : List (String × Nat)} {own : String} {h0 : Heap} {ws : List Addr} {T T' : State} {h h' hB : Heap} {cells slots : Nat} {S : List Addr} {Q : Outcome → State → Prop} {pc pc' pc1 pc2 : Nat} {Ls l' : Array Slot} {rest st : List Value} {vm0 : Vm} {k0 : Nat} {locs : List Loc} {g g' : JFrame}
theorem Run.to (f : ∀ t, Steps p.tables e below (T'.setTop g') t → Steps p.tables e below (T.setTop g) t) (k : Run p e below Q T' g') : Run p e below Q T g := by
  obtain ⟨a, b, q, r⟩ := k
  exact ⟨a, b, f _ q, r⟩
theorem Run.stp (f : Steps p.tables e below (T.setTop g) (T'.setTop g')) (k : Run p e below Q T' g') : Run p e below Q T g := Run.to (fun _ q => f.trans q) k
theorem Run.join {α : Type} {C : α → Prop} {F : α → JFrame} (k1 : ∀ a, C a → Run p e below Q T (F a)) (k2 : (∀ a, C a → Run p e below Q T (F a)) → Run p e below Q T g) : Run p e below Q T g := k2 k1
theorem Run.joinW (w : Wk p l e R s m args below meth c Z EL own h0 ws T h cells slots S) {α : Type} {C : α → Prop} {F : α → JFrame} (k1 : ∀ T' a, Wk p l e R s m args below meth c Z EL own h0 ws T' h cells slots S → C a → Run p e below Q T' (F a)) (k2 : (∀ T' a, Wk p l e R s m args below meth c Z EL own h0 ws T' h cells slots S → C a → Run p e below Q T' (F a)) → Run p e below Q T g) : Run p e below Q T g := k2 k1
theorem Run.cast (q : g = g') (k : Run p e below Q T g') : Run p e below Q T g := q ▸ k
theorem Rs.ch (r : Rs s m Z EL own h0 ws vm0 k0 locs h S) : CHv Z EL vm0 h := r.2.2.2.2.1.1
theorem Rs.hZ (r : Rs s m Z EL own h0 ws vm0 k0 locs h S) : Z.Warmed39 (s.setVm vm0).vm := r.2.2.1
theorem Rs.ow (r : Rs s m Z EL own h0 ws vm0 k0 locs h S) : (s.setVm vm0).vm.findClass own = some m.cls := r.2.2.2.1
theorem Rs.keep (r : Rs s m Z EL own h0 ws vm0 k0 locs h S) : Keep h0 h ws := r.2.2.2.2.2.2.1
theorem Rs.ext (r : Rs s m Z EL own h0 ws vm0 k0 locs h S) (E : Ext h h') : Rs s m Z EL own h0 ws vm0 k0 locs h' S := by
  obtain ⟨a1, a2, a3, a4, a5, a6, a7, a8, a9, a10⟩ := r
  exact ⟨a1, Nat.le_trans a2 E.1, a3, a4, a5.trans (CHr.ext E a5.1), a6, a7.ext E, a8, a9, fun x q => ⟨Nat.lt_of_lt_of_le (a10 x q).1 E.1, Safe.ext E a5.1 (a10 x q).2⟩⟩
theorem Rs.add (r : Rs s m Z EL own h0 ws vm0 k0 locs h S) (E : Ext h h') {x : Addr} (q1 : h.size ≤ x) (q2 : x < h'.size) : Rs s m Z EL own h0 ws vm0 k0 locs h' (x :: S) := by
  have r' := r.ext E
  obtain ⟨a1, a2, a3, a4, a5, a6, a7, a8, a9, a10⟩ := r'
  refine ⟨a1, a2, a3, a4, a5, a6, a7, a8, a9, fun y q => ?_⟩
  rcases List.mem_cons.mp q with rfl | q
  · exact ⟨q2, Safe.ext E r.ch (Safe.new q1)⟩
  · exact a10 y q
theorem Rs.wr (r : Rs s m Z EL own h0 ws vm0 k0 locs h S) {a : Addr} {sl : Nat} {v : Value} (W : Wr h h' a sl v) (Sa : Safe Z EL vm0 h a) (q : a ∈ ws ∨ h0.size ≤ a) : Rs s m Z EL own h0 ws vm0 k0 (locs ++ [⟨a, sl⟩]) h' S := by
  obtain ⟨a1, a2, a3, a4, a5, a6, a7, a8, a9, a10⟩ := r
  have hsz := W.size
  refine ⟨a1, by rw [hsz]; exact a2, a3, a4, a5.trans (CHr.wr W Sa a5.1), a6.app fun y hy => ?_, a7.wr W q, a8, a9, fun x z => ⟨by rw [hsz]; exact (a10 x z).1, Safe.wr W Sa a5.1 (a10 x z).2⟩⟩
  rw [List.mem_singleton.mp hy]
  rcases q with q | q
  · exact a9 _ q
  · exact Nat.le_trans a8.1 q
theorem Rs.sub (r : Rs s m Z EL own h0 ws vm0 k0 locs h S) {S' : List Addr} (q : ∀ x ∈ S', x ∈ S) : Rs s m Z EL own h0 ws vm0 k0 locs h S' := by
  obtain ⟨a1, a2, a3, a4, a5, a6, a7, a8, a9, a10⟩ := r
  exact ⟨a1, a2, a3, a4, a5, a6, a7, a8, a9, fun x z => a10 x (q x z)⟩
theorem Ext.rf (h : Heap) : Ext h h := ⟨Nat.le_refl _, fun _ _ q => q⟩
theorem Ext.tr {h2 : Heap} (E : Ext h h') (F : Ext h' h2) : Ext h h2 := ⟨Nat.le_trans E.1 F.1, fun x c q => F.2 x c (E.2 x c q)⟩
theorem Ext.wr' (E : Ext hB h) {a : Addr} {sl : Nat} {v : Value} (W : Wr h h' a sl v) (q : hB.size ≤ a) : Ext hB h' := by
  have hsz := W.size
  refine ⟨by rw [hsz]; exact E.1, fun x c z => ?_⟩
  obtain ⟨c0, -, -, -, rfl⟩ := W
  have hx := (Array.getElem?_eq_some_iff.mp z).1
  rw [Array.getElem?_setIfInBounds_ne (by omega)]
  exact E.2 x c z
theorem Ext.kp (E : Ext hB h) {vs : List Addr} (K : Keep h h' vs) (q : ∀ x ∈ vs, hB.size ≤ x) : Ext hB h' := by
  refine ⟨Nat.le_trans E.1 K.1, fun x c z => K.2.1 x c (E.2 x c z) fun hm => ?_⟩
  have hx := (Array.getElem?_eq_some_iff.mp z).1
  have := q x hm
  omega
theorem Keep.ext0 (K : Keep h h' []) : Ext h h' := ⟨K.1, fun x c q => K.2.1 x c q nin0⟩
theorem Wk.at (w : Wk p l e R s m args below meth c Z EL own h0 ws T h cells slots S) : At T m c below := by obtain ⟨_, _, _, -, X, -⟩ := w; exact X.here
theorem Wk.hx (w : Wk p l e R s m args below meth c Z EL own h0 ws T h cells slots S) : p.tables.exec = Jvm.exec := by obtain ⟨_, _, _, q, -⟩ := w; exact q
theorem Wk.keep (w : Wk p l e R s m args below meth c Z EL own h0 ws T h cells slots S) : Keep h0 h ws := by obtain ⟨_, _, _, -, -, -, r⟩ := w; exact r.keep
theorem Rs.old (r : Rs s m Z EL own h0 ws vm0 k0 locs h S) : Ext Z.heap h := Ext.kp r.2.2.2.2.2.2.2.1 r.keep r.2.2.2.2.2.2.2.2.1
theorem Wk.old (w : Wk p l e R s m args below meth c Z EL own h0 ws T h cells slots S) : Ext Z.heap h := by obtain ⟨_, _, _, -, -, -, r⟩ := w; exact r.old
theorem Wk.mono (w : Wk p l e R s m args below meth c Z EL own h0 ws T h cells slots S) {cells' slots' : Nat} (q1 : cells ≤ cells') (q2 : slots ≤ slots') : Wk p l e R s m args below meth c Z EL own h0 ws T h cells' slots' S := by
  obtain ⟨vm0, k0, locs, hx, X, r⟩ := w
  exact ⟨vm0, k0, locs, hx, X.mono q1 q2, r⟩
theorem Wk.sub (w : Wk p l e R s m args below meth c Z EL own h0 ws T h cells slots S) {S' : List Addr} (q : ∀ x ∈ S', x ∈ S) : Wk p l e R s m args below meth c Z EL own h0 ws T h cells slots S' := by
  obtain ⟨vm0, k0, locs, hx, X, eT, r⟩ := w
  exact ⟨vm0, k0, locs, hx, X, eT, r.sub q⟩
theorem s_iadd (w : Wk p l e R s m args below meth c Z EL own h0 ws T h cells slots S) {x y : Int32} (hd : decode c.code pc = .ok (.iadd, 1)) (hp : pc + 1 = pc') (k : Run p e below Q T (mkF m pc' Ls (.int (x + y) :: rest))) : Run p e below Q T (mkF m pc Ls (.int y :: .int x :: rest)) := by
  subst hp; exact Run.to (fun _ q => XS.iadd w.at w.hx rfl hd rfl q) k
theorem s_isub (w : Wk p l e R s m args below meth c Z EL own h0 ws T h cells slots S) {x y : Int32} (hd : decode c.code pc = .ok (.isub, 1)) (hp : pc + 1 = pc') (k : Run p e below Q T (mkF m pc' Ls (.int (x - y) :: rest))) : Run p e below Q T (mkF m pc Ls (.int y :: .int x :: rest)) := by
  subst hp; exact Run.to (fun _ q => XS.isub w.at w.hx rfl hd rfl q) k
theorem s_iand (w : Wk p l e R s m args below meth c Z EL own h0 ws T h cells slots S) {x y : Int32} (hd : decode c.code pc = .ok (.iand, 1)) (hp : pc + 1 = pc') (k : Run p e below Q T (mkF m pc' Ls (.int (x &&& y) :: rest))) : Run p e below Q T (mkF m pc Ls (.int y :: .int x :: rest)) := by
  subst hp; exact Run.to (fun _ q => XS.iand w.at w.hx rfl hd rfl q) k
theorem s_imul (w : Wk p l e R s m args below meth c Z EL own h0 ws T h cells slots S) {x y : Int32} (hd : decode c.code pc = .ok (.imul, 1)) (hp : pc + 1 = pc') (k : Run p e below Q T (mkF m pc' Ls (.int (x * y) :: rest))) : Run p e below Q T (mkF m pc Ls (.int y :: .int x :: rest)) := by
  subst hp; exact Run.to (fun _ q => XS.imul w.at w.hx rfl hd rfl q) k
theorem s_ixor (w : Wk p l e R s m args below meth c Z EL own h0 ws T h cells slots S) {x y : Int32} (hd : decode c.code pc = .ok (.ixor, 1)) (hp : pc + 1 = pc') (k : Run p e below Q T (mkF m pc' Ls (.int (x ^^^ y) :: rest))) : Run p e below Q T (mkF m pc Ls (.int y :: .int x :: rest)) := by
  subst hp; exact Run.to (fun _ q => XT.ixor w.at w.hx rfl hd rfl q) k
theorem s_ior (w : Wk p l e R s m args below meth c Z EL own h0 ws T h cells slots S) {x y : Int32} (hd : decode c.code pc = .ok (.ior, 1)) (hp : pc + 1 = pc') (k : Run p e below Q T (mkF m pc' Ls (.int (x ||| y) :: rest))) : Run p e below Q T (mkF m pc Ls (.int y :: .int x :: rest)) := by
  subst hp; exact Run.to (fun _ q => XT.ior w.at w.hx rfl hd rfl q) k
theorem s_ishl (w : Wk p l e R s m args below meth c Z EL own h0 ws T h cells slots S) {x y : Int32} (hd : decode c.code pc = .ok (.ishl, 1)) (hp : pc + 1 = pc') (k : Run p e below Q T (mkF m pc' Ls (.int (x <<< (y &&& 31)) :: rest))) : Run p e below Q T (mkF m pc Ls (.int y :: .int x :: rest)) := by
  subst hp; exact Run.to (fun _ q => XT.ishl w.at w.hx rfl hd rfl q) k
theorem s_ishr (w : Wk p l e R s m args below meth c Z EL own h0 ws T h cells slots S) {x y : Int32} (hd : decode c.code pc = .ok (.ishr, 1)) (hp : pc + 1 = pc') (k : Run p e below Q T (mkF m pc' Ls (.int (x >>> (y &&& 31)) :: rest))) : Run p e below Q T (mkF m pc Ls (.int y :: .int x :: rest)) := by
  subst hp; exact Run.to (fun _ q => XT.ishr w.at w.hx rfl hd rfl q) k
theorem s_iushr (w : Wk p l e R s m args below meth c Z EL own h0 ws T h cells slots S) {x y : Int32} (hd : decode c.code pc = .ok (.iushr, 1)) (hp : pc + 1 = pc') (k : Run p e below Q T (mkF m pc' Ls (.int (XT.ushr x y) :: rest))) : Run p e below Q T (mkF m pc Ls (.int y :: .int x :: rest)) := by
  subst hp; exact Run.to (fun _ q => XT.iushr w.at w.hx rfl hd rfl q) k
theorem s_irem (w : Wk p l e R s m args below meth c Z EL own h0 ws T h cells slots S) {x y : Int32} (hd : decode c.code pc = .ok (.irem, 1)) (hy : y ≠ 0) (hp : pc + 1 = pc') (k : Run p e below Q T (mkF m pc' Ls (.int (x % y) :: rest))) : Run p e below Q T (mkF m pc Ls (.int y :: .int x :: rest)) := by
  subst hp; obtain ⟨_, _, _, hx, X, -⟩ := w; exact Run.to (fun _ q => iremM X hx rfl hd rfl hy q) k
theorem s_idiv (w : Wk p l e R s m args below meth c Z EL own h0 ws T h cells slots S) {x y : Int32} (hd : decode c.code pc = .ok (.idiv, 1)) (hy : y ≠ 0) (hp : pc + 1 = pc') (k : Run p e below Q T (mkF m pc' Ls (.int (x / y) :: rest))) : Run p e below Q T (mkF m pc Ls (.int y :: .int x :: rest)) := by
  subst hp; exact Run.to (fun _ q => XS.idiv w.at w.hx rfl hd rfl hy q) k
theorem s_ladd (w : Wk p l e R s m args below meth c Z EL own h0 ws T h cells slots S) {x y : Int64} (hd : decode c.code pc = .ok (.ladd, 1)) (hp : pc + 1 = pc') (k : Run p e below Q T (mkF m pc' Ls (.long (x + y) :: rest))) : Run p e below Q T (mkF m pc Ls (.long y :: .long x :: rest)) := by
  subst hp; exact Run.to (fun _ q => XT.ladd w.at w.hx rfl hd rfl q) k
theorem s_lsub (w : Wk p l e R s m args below meth c Z EL own h0 ws T h cells slots S) {x y : Int64} (hd : decode c.code pc = .ok (.lsub, 1)) (hp : pc + 1 = pc') (k : Run p e below Q T (mkF m pc' Ls (.long (x - y) :: rest))) : Run p e below Q T (mkF m pc Ls (.long y :: .long x :: rest)) := by
  subst hp; exact Run.to (fun _ q => XT.lsub w.at w.hx rfl hd rfl q) k
theorem s_lmul (w : Wk p l e R s m args below meth c Z EL own h0 ws T h cells slots S) {x y : Int64} (hd : decode c.code pc = .ok (.lmul, 1)) (hp : pc + 1 = pc') (k : Run p e below Q T (mkF m pc' Ls (.long (x * y) :: rest))) : Run p e below Q T (mkF m pc Ls (.long y :: .long x :: rest)) := by
  subst hp; exact Run.to (fun _ q => XT.lmul w.at w.hx rfl hd rfl q) k
theorem s_land (w : Wk p l e R s m args below meth c Z EL own h0 ws T h cells slots S) {x y : Int64} (hd : decode c.code pc = .ok (.land, 1)) (hp : pc + 1 = pc') (k : Run p e below Q T (mkF m pc' Ls (.long (x &&& y) :: rest))) : Run p e below Q T (mkF m pc Ls (.long y :: .long x :: rest)) := by
  subst hp; exact Run.to (fun _ q => XT.land w.at w.hx rfl hd rfl q) k
theorem s_lor (w : Wk p l e R s m args below meth c Z EL own h0 ws T h cells slots S) {x y : Int64} (hd : decode c.code pc = .ok (.lor, 1)) (hp : pc + 1 = pc') (k : Run p e below Q T (mkF m pc' Ls (.long (x ||| y) :: rest))) : Run p e below Q T (mkF m pc Ls (.long y :: .long x :: rest)) := by
  subst hp; exact Run.to (fun _ q => XT.lor w.at w.hx rfl hd rfl q) k
theorem s_lxor (w : Wk p l e R s m args below meth c Z EL own h0 ws T h cells slots S) {x y : Int64} (hd : decode c.code pc = .ok (.lxor, 1)) (hp : pc + 1 = pc') (k : Run p e below Q T (mkF m pc' Ls (.long (x ^^^ y) :: rest))) : Run p e below Q T (mkF m pc Ls (.long y :: .long x :: rest)) := by
  subst hp; exact Run.to (fun _ q => XT.lxor w.at w.hx rfl hd rfl q) k
theorem s_lshl (w : Wk p l e R s m args below meth c Z EL own h0 ws T h cells slots S) {x : Int64} {y : Int32} (hd : decode c.code pc = .ok (.lshl, 1)) (hp : pc + 1 = pc') (k : Run p e below Q T (mkF m pc' Ls (.long (x <<< (y &&& 0x3f).toInt64) :: rest))) : Run p e below Q T (mkF m pc Ls (.int y :: .long x :: rest)) := by
  subst hp; exact Run.to (fun _ q => XS.lshl w.at w.hx rfl hd rfl q) k
theorem s_lshr (w : Wk p l e R s m args below meth c Z EL own h0 ws T h cells slots S) {x : Int64} {y : Int32} (hd : decode c.code pc = .ok (.lshr, 1)) (hp : pc + 1 = pc') (k : Run p e below Q T (mkF m pc' Ls (.long (x >>> (y &&& 0x3f).toInt64) :: rest))) : Run p e below Q T (mkF m pc Ls (.int y :: .long x :: rest)) := by
  subst hp; exact Run.to (fun _ q => XS.lshr w.at w.hx rfl hd rfl q) k
theorem s_lushr (w : Wk p l e R s m args below meth c Z EL own h0 ws T h cells slots S) {x : Int64} {y : Int32} (hd : decode c.code pc = .ok (.lushr, 1)) (hp : pc + 1 = pc') (k : Run p e below Q T (mkF m pc' Ls (.long (ushJ x y) :: rest))) : Run p e below Q T (mkF m pc Ls (.int y :: .long x :: rest)) := by
  subst hp; exact Run.to (fun _ q => XS.lushr w.at w.hx rfl hd rfl q) k
theorem s_lcmp (w : Wk p l e R s m args below meth c Z EL own h0 ws T h cells slots S) {x y : Int64} (hd : decode c.code pc = .ok (.lcmp, 1)) (hp : pc + 1 = pc') (k : Run p e below Q T (mkF m pc' Ls (.int (XT.cmpL x y) :: rest))) : Run p e below Q T (mkF m pc Ls (.long y :: .long x :: rest)) := by
  subst hp; exact Run.to (fun _ q => XT.lcmp w.at w.hx rfl hd rfl q) k
theorem s_ineg (w : Wk p l e R s m args below meth c Z EL own h0 ws T h cells slots S) {x : Int32} (hd : decode c.code pc = .ok (.ineg, 1)) (hp : pc + 1 = pc') (k : Run p e below Q T (mkF m pc' Ls (.int (-x) :: rest))) : Run p e below Q T (mkF m pc Ls (.int x :: rest)) := by
  subst hp; exact Run.to (fun _ q => XS.ineg w.at w.hx rfl hd rfl q) k
theorem s_i2l (w : Wk p l e R s m args below meth c Z EL own h0 ws T h cells slots S) {x : Int32} (hd : decode c.code pc = .ok (.i2l, 1)) (hp : pc + 1 = pc') (k : Run p e below Q T (mkF m pc' Ls (.long x.toInt64 :: rest))) : Run p e below Q T (mkF m pc Ls (.int x :: rest)) := by
  subst hp; exact Run.to (fun _ q => XT.i2l w.at w.hx rfl hd rfl q) k
theorem s_l2i (w : Wk p l e R s m args below meth c Z EL own h0 ws T h cells slots S) {x : Int64} (hd : decode c.code pc = .ok (.l2i, 1)) (hp : pc + 1 = pc') (k : Run p e below Q T (mkF m pc' Ls (.int x.toInt32 :: rest))) : Run p e below Q T (mkF m pc Ls (.long x :: rest)) := by
  subst hp; exact Run.to (fun _ q => XT.l2i w.at w.hx rfl hd rfl q) k
theorem s_i2b (w : Wk p l e R s m args below meth c Z EL own h0 ws T h cells slots S) {x : Int32} (hd : decode c.code pc = .ok (.i2b, 1)) (hp : pc + 1 = pc') (k : Run p e below Q T (mkF m pc' Ls (.int x.toInt8.toInt32 :: rest))) : Run p e below Q T (mkF m pc Ls (.int x :: rest)) := by
  subst hp; exact Run.to (fun _ q => XT.i2b w.at w.hx rfl hd rfl q) k
theorem s_i2s (w : Wk p l e R s m args below meth c Z EL own h0 ws T h cells slots S) {x : Int32} (hd : decode c.code pc = .ok (.i2s, 1)) (hp : pc + 1 = pc') (k : Run p e below Q T (mkF m pc' Ls (.int x.toInt16.toInt32 :: rest))) : Run p e below Q T (mkF m pc Ls (.int x :: rest)) := by
  subst hp; exact Run.to (fun _ q => XT.i2s w.at w.hx rfl hd rfl q) k
theorem s_i2c (w : Wk p l e R s m args below meth c Z EL own h0 ws T h cells slots S) {x : Int32} (hd : decode c.code pc = .ok (.i2c, 1)) (hp : pc + 1 = pc') (k : Run p e below Q T (mkF m pc' Ls (.int (nar .char x) :: rest))) : Run p e below Q T (mkF m pc Ls (.int x :: rest)) := by
  subst hp; exact Run.to (fun _ q => XT.i2c w.at w.hx rfl hd rfl q) k
theorem s_dup (w : Wk p l e R s m args below meth c Z EL own h0 ws T h cells slots S) {x : Value} (hd : decode c.code pc = .ok (.dup, 1)) (hc : x.category = 1) (hp : pc + 1 = pc') (k : Run p e below Q T (mkF m pc' Ls (x :: x :: rest))) : Run p e below Q T (mkF m pc Ls (x :: rest)) := by
  subst hp; exact Run.to (fun _ q => XS.dup w.at w.hx rfl hd rfl hc q) k
theorem s_pop (w : Wk p l e R s m args below meth c Z EL own h0 ws T h cells slots S) {x : Value} (hd : decode c.code pc = .ok (.pop, 1)) (hc : x.category = 1) (hp : pc + 1 = pc') (k : Run p e below Q T (mkF m pc' Ls rest)) : Run p e below Q T (mkF m pc Ls (x :: rest)) := by
  subst hp; exact Run.to (fun _ q => XT.pop w.at w.hx rfl hd rfl hc q) k
theorem s_dup_x1 (w : Wk p l e R s m args below meth c Z EL own h0 ws T h cells slots S) {x y : Value} (hd : decode c.code pc = .ok (.dup_x1, 1)) (hc : x.category = 1) (hc' : y.category = 1) (hp : pc + 1 = pc') (k : Run p e below Q T (mkF m pc' Ls (x :: y :: x :: rest))) : Run p e below Q T (mkF m pc Ls (x :: y :: rest)) := by
  subst hp; exact Run.to (fun _ q => XT.dupX1 w.at w.hx rfl hd rfl hc hc' q) k
theorem s_dup2 (w : Wk p l e R s m args below meth c Z EL own h0 ws T h cells slots S) {x y : Value} (hd : decode c.code pc = .ok (.dup2, 1)) (hc : x.category = 1) (hc' : y.category = 1) (hp : pc + 1 = pc') (k : Run p e below Q T (mkF m pc' Ls (x :: y :: x :: y :: rest))) : Run p e below Q T (mkF m pc Ls (x :: y :: rest)) := by
  subst hp; exact Run.to (fun _ q => XT.dup2 w.at w.hx rfl hd rfl hc hc' q) k
theorem s_iconst (w : Wk p l e R s m args below meth c Z EL own h0 ws T h cells slots S) {i : Int} {v : Int32} (hd : decode c.code pc = .ok (.iconst i, 1)) (hv : Int32.ofInt i = v) (hp : pc + 1 = pc') (k : Run p e below Q T (mkF m pc' Ls (.int v :: st))) : Run p e below Q T (mkF m pc Ls st) := by
  subst hp hv; exact Run.to (fun _ q => XS.iconst w.at w.hx rfl hd q) k
theorem s_bipush (w : Wk p l e R s m args below meth c Z EL own h0 ws T h cells slots S) {i : Int} {v : Int32} (hd : decode c.code pc = .ok (.bipush i, 2)) (hv : (Int8.ofInt i).toInt32 = v) (hp : pc + 2 = pc') (k : Run p e below Q T (mkF m pc' Ls (.int v :: st))) : Run p e below Q T (mkF m pc Ls st) := by
  subst hp hv; exact Run.to (fun _ q => XS.bipush w.at w.hx rfl hd q) k
theorem s_sipush (w : Wk p l e R s m args below meth c Z EL own h0 ws T h cells slots S) {i : Int} {v : Int32} (hd : decode c.code pc = .ok (.sipush i, 3)) (hv : (Int16.ofInt i).toInt32 = v) (hp : pc + 3 = pc') (k : Run p e below Q T (mkF m pc' Ls (.int v :: st))) : Run p e below Q T (mkF m pc Ls st) := by
  subst hp hv; exact Run.to (fun _ q => XS.sipush w.at w.hx rfl hd q) k
theorem s_lconst (w : Wk p l e R s m args below meth c Z EL own h0 ws T h cells slots S) {i : Fin 2} {v : Int64} (hd : decode c.code pc = .ok (.lconst i, 1)) (hv : Int64.ofNat i = v) (hp : pc + 1 = pc') (k : Run p e below Q T (mkF m pc' Ls (.long v :: st))) : Run p e below Q T (mkF m pc Ls st) := by
  subst hp hv; exact Run.to (fun _ q => XT.lconst w.at w.hx rfl hd q) k
theorem s_anull (w : Wk p l e R s m args below meth c Z EL own h0 ws T h cells slots S) (hd : decode c.code pc = .ok (.aconst_null, 1)) (hp : pc + 1 = pc') (k : Run p e below Q T (mkF m pc' Ls (.null :: st))) : Run p e below Q T (mkF m pc Ls st) := by
  subst hp; exact Run.to (fun _ q => XS.aconstNull w.at w.hx rfl hd q) k
theorem s_iload (w : Wk p l e R s m args below meth c Z EL own h0 ws T h cells slots S) {i : Nat} {v : Int32} (hd : decode c.code pc = .ok (.iload i, 2)) (hl : Ls[i]? = some (.val (.int v))) (hp : pc + 2 = pc') (k : Run p e below Q T (mkF m pc' Ls (.int v :: st))) : Run p e below Q T (mkF m pc Ls st) := by
  subst hp; exact Run.to (fun _ q => XS.iload w.at w.hx rfl hd hl q) k
theorem s_iload_n (w : Wk p l e R s m args below meth c Z EL own h0 ws T h cells slots S) {i : Fin 4} {v : Int32} (hd : decode c.code pc = .ok (.iload_n i, 1)) (hl : Ls[i.val]? = some (.val (.int v))) (hp : pc + 1 = pc') (k : Run p e below Q T (mkF m pc' Ls (.int v :: st))) : Run p e below Q T (mkF m pc Ls st) := by
  subst hp; exact Run.to (fun _ q => XS.iloadN w.at w.hx rfl hd hl q) k
theorem s_lload (w : Wk p l e R s m args below meth c Z EL own h0 ws T h cells slots S) {i : Nat} {v : Int64} (hd : decode c.code pc = .ok (.lload i, 2)) (hl : Ls[i]? = some (.val (.long v))) (hp : pc + 2 = pc') (k : Run p e below Q T (mkF m pc' Ls (.long v :: st))) : Run p e below Q T (mkF m pc Ls st) := by
  subst hp; exact Run.to (fun _ q => XT.lload w.at w.hx rfl hd hl q) k
theorem s_lload_n (w : Wk p l e R s m args below meth c Z EL own h0 ws T h cells slots S) {i : Fin 4} {v : Int64} (hd : decode c.code pc = .ok (.lload_n i, 1)) (hl : Ls[i.val]? = some (.val (.long v))) (hp : pc + 1 = pc') (k : Run p e below Q T (mkF m pc' Ls (.long v :: st))) : Run p e below Q T (mkF m pc Ls st) := by
  subst hp; exact Run.to (fun _ q => XT.lloadN w.at w.hx rfl hd hl q) k
theorem s_aload (w : Wk p l e R s m args below meth c Z EL own h0 ws T h cells slots S) {i : Nat} {v : Value} (hd : decode c.code pc = .ok (.aload i, 2)) (hl : Ls[i]? = some (.val v)) (hv : v.isRef = true) (hp : pc + 2 = pc') (k : Run p e below Q T (mkF m pc' Ls (v :: st))) : Run p e below Q T (mkF m pc Ls st) := by
  subst hp; exact Run.to (fun _ q => XS.aload w.at w.hx rfl hd hl hv q) k
theorem s_aload_n (w : Wk p l e R s m args below meth c Z EL own h0 ws T h cells slots S) {i : Fin 4} {v : Value} (hd : decode c.code pc = .ok (.aload_n i, 1)) (hl : Ls[i.val]? = some (.val v)) (hv : v.isRef = true) (hp : pc + 1 = pc') (k : Run p e below Q T (mkF m pc' Ls (v :: st))) : Run p e below Q T (mkF m pc Ls st) := by
  subst hp; exact Run.to (fun _ q => XS.aloadN w.at w.hx rfl hd hl hv q) k
theorem s_istore (w : Wk p l e R s m args below meth c Z EL own h0 ws T h cells slots S) {i : Nat} {v : Int32} (l' : Array Slot) (hd : decode c.code pc = .ok (.istore i, 2)) (hl : storeLocals Ls i (.int v) = some l') (hp : pc + 2 = pc') (k : Run p e below Q T (mkF m pc' l' st)) : Run p e below Q T (mkF m pc Ls (.int v :: st)) := by
  subst hp; exact Run.to (fun _ q => XS.istore w.at w.hx rfl hd rfl hl q) k
theorem s_istore_n (w : Wk p l e R s m args below meth c Z EL own h0 ws T h cells slots S) {i : Fin 4} {v : Int32} (l' : Array Slot) (hd : decode c.code pc = .ok (.istore_n i, 1)) (hl : storeLocals Ls i.val (.int v) = some l') (hp : pc + 1 = pc') (k : Run p e below Q T (mkF m pc' l' st)) : Run p e below Q T (mkF m pc Ls (.int v :: st)) := by
  subst hp; exact Run.to (fun _ q => XS.istoreN w.at w.hx rfl hd rfl hl q) k
theorem s_lstore (w : Wk p l e R s m args below meth c Z EL own h0 ws T h cells slots S) {i : Nat} {v : Int64} (l' : Array Slot) (hd : decode c.code pc = .ok (.lstore i, 2)) (hl : storeLocals Ls i (.long v) = some l') (hp : pc + 2 = pc') (k : Run p e below Q T (mkF m pc' l' st)) : Run p e below Q T (mkF m pc Ls (.long v :: st)) := by
  subst hp; exact Run.to (fun _ q => XT.lstore w.at w.hx rfl hd rfl hl q) k
theorem s_lstore_n (w : Wk p l e R s m args below meth c Z EL own h0 ws T h cells slots S) {i : Fin 4} {v : Int64} (l' : Array Slot) (hd : decode c.code pc = .ok (.lstore_n i, 1)) (hl : storeLocals Ls i.val (.long v) = some l') (hp : pc + 1 = pc') (k : Run p e below Q T (mkF m pc' l' st)) : Run p e below Q T (mkF m pc Ls (.long v :: st)) := by
  subst hp; exact Run.to (fun _ q => XT.lstoreN w.at w.hx rfl hd rfl hl q) k
theorem s_astore (w : Wk p l e R s m args below meth c Z EL own h0 ws T h cells slots S) {i : Nat} {v : Value} (l' : Array Slot) (hd : decode c.code pc = .ok (.astore i, 2)) (hv : v.isRef = true) (hl : storeLocals Ls i v = some l') (hp : pc + 2 = pc') (k : Run p e below Q T (mkF m pc' l' st)) : Run p e below Q T (mkF m pc Ls (v :: st)) := by
  subst hp; exact Run.to (fun _ q => XS.astore w.at w.hx rfl hd rfl hv hl q) k
theorem s_astore_n (w : Wk p l e R s m args below meth c Z EL own h0 ws T h cells slots S) {i : Fin 4} {v : Value} (l' : Array Slot) (hd : decode c.code pc = .ok (.astore_n i, 1)) (hv : v.isRef = true) (hl : storeLocals Ls i.val v = some l') (hp : pc + 1 = pc') (k : Run p e below Q T (mkF m pc' l' st)) : Run p e below Q T (mkF m pc Ls (v :: st)) := by
  subst hp; exact Run.to (fun _ q => XS.astoreN w.at w.hx rfl hd rfl hv hl q) k
theorem s_iinc (w : Wk p l e R s m args below meth c Z EL own h0 ws T h cells slots S) {i : Nat} {cst : Int} {x v : Int32} (l' : Array Slot) (hd : decode c.code pc = .ok (.iinc i cst, 3)) (hv : Int32.ofInt cst = v) (hl : Ls[i]? = some (.val (.int x))) (hl' : storeLocals Ls i (.int (x + v)) = some l') (hp : pc + 3 = pc') (k : Run p e below Q T (mkF m pc' l' st)) : Run p e below Q T (mkF m pc Ls st) := by
  subst hp; exact Run.to (fun _ q => XT.iincV w.at w.hx rfl v hd hv hl hl' q) k
theorem s_goto (w : Wk p l e R s m args below meth c Z EL own h0 ws T h cells slots S) {o : Int} (hd : decode c.code pc = .ok (.goto o, 3)) (ho : 0 ≤ (pc : Int) + o) (hp : ((pc : Int) + o).toNat = pc') (k : Run p e below Q T (mkF m pc' Ls st)) : Run p e below Q T (mkF m pc Ls st) := by
  exact Run.to (fun _ q => XS.goto w.at w.hx rfl (pc0 := pc) rfl hd ho hp q) k
theorem s_icmp_eq (w : Wk p l e R s m args below meth c Z EL own h0 ws T h cells slots S) {x y : Int32} {o : Int} (hd : decode c.code pc = .ok (.if_icmp .eq o, 3)) (ho : 0 ≤ (pc : Int) + o) (h1 : pc + 3 = pc1) (h2 : ((pc : Int) + o).toNat = pc2) (k1 : ¬ (x = y) → Run p e below Q T (mkF m pc1 Ls rest)) (k2 : x = y → Run p e below Q T (mkF m pc2 Ls rest)) : Run p e below Q T (mkF m pc Ls (.int y :: .int x :: rest)) := by
  subst h1
  by_cases cq : x = y
  · exact Run.to (fun _ q => XS.icmpYes w.at w.hx rfl (pc0 := pc) rfl hd rfl (XT.ii_eq_t cq) ho h2 q) (k2 cq)
  · exact Run.to (fun _ q => XS.icmpNo w.at w.hx rfl hd rfl (XT.ii_eq_f cq) q) (k1 cq)
theorem s_icmp_ne (w : Wk p l e R s m args below meth c Z EL own h0 ws T h cells slots S) {x y : Int32} {o : Int} (hd : decode c.code pc = .ok (.if_icmp .ne o, 3)) (ho : 0 ≤ (pc : Int) + o) (h1 : pc + 3 = pc1) (h2 : ((pc : Int) + o).toNat = pc2) (k1 : x = y → Run p e below Q T (mkF m pc1 Ls rest)) (k2 : ¬ (x = y) → Run p e below Q T (mkF m pc2 Ls rest)) : Run p e below Q T (mkF m pc Ls (.int y :: .int x :: rest)) := by
  subst h1
  by_cases cq : x = y
  · exact Run.to (fun _ q => XS.icmpNo w.at w.hx rfl hd rfl (XT.ii_ne_f cq) q) (k1 cq)
  · exact Run.to (fun _ q => XS.icmpYes w.at w.hx rfl (pc0 := pc) rfl hd rfl (XT.ii_ne_t cq) ho h2 q) (k2 cq)
theorem s_icmp_lt (w : Wk p l e R s m args below meth c Z EL own h0 ws T h cells slots S) {x y : Int32} {o : Int} (hd : decode c.code pc = .ok (.if_icmp .lt o, 3)) (ho : 0 ≤ (pc : Int) + o) (h1 : pc + 3 = pc1) (h2 : ((pc : Int) + o).toNat = pc2) (k1 : ¬ (x < y) → Run p e below Q T (mkF m pc1 Ls rest)) (k2 : x < y → Run p e below Q T (mkF m pc2 Ls rest)) : Run p e below Q T (mkF m pc Ls (.int y :: .int x :: rest)) := by
  subst h1
  by_cases cq : x < y
  · exact Run.to (fun _ q => XS.icmpYes w.at w.hx rfl (pc0 := pc) rfl hd rfl (XT.ii_lt_t cq) ho h2 q) (k2 cq)
  · exact Run.to (fun _ q => XS.icmpNo w.at w.hx rfl hd rfl (XT.ii_lt_f cq) q) (k1 cq)
theorem s_icmp_ge (w : Wk p l e R s m args below meth c Z EL own h0 ws T h cells slots S) {x y : Int32} {o : Int} (hd : decode c.code pc = .ok (.if_icmp .ge o, 3)) (ho : 0 ≤ (pc : Int) + o) (h1 : pc + 3 = pc1) (h2 : ((pc : Int) + o).toNat = pc2) (k1 : x < y → Run p e below Q T (mkF m pc1 Ls rest)) (k2 : ¬ (x < y) → Run p e below Q T (mkF m pc2 Ls rest)) : Run p e below Q T (mkF m pc Ls (.int y :: .int x :: rest)) := by
  subst h1
  by_cases cq : x < y
  · exact Run.to (fun _ q => XS.icmpNo w.at w.hx rfl hd rfl (XT.ii_ge_f cq) q) (k1 cq)
  · exact Run.to (fun _ q => XS.icmpYes w.at w.hx rfl (pc0 := pc) rfl hd rfl (XT.ii_ge_t cq) ho h2 q) (k2 cq)
theorem s_icmp_gt (w : Wk p l e R s m args below meth c Z EL own h0 ws T h cells slots S) {x y : Int32} {o : Int} (hd : decode c.code pc = .ok (.if_icmp .gt o, 3)) (ho : 0 ≤ (pc : Int) + o) (h1 : pc + 3 = pc1) (h2 : ((pc : Int) + o).toNat = pc2) (k1 : ¬ (y < x) → Run p e below Q T (mkF m pc1 Ls rest)) (k2 : y < x → Run p e below Q T (mkF m pc2 Ls rest)) : Run p e below Q T (mkF m pc Ls (.int y :: .int x :: rest)) := by
  subst h1
  by_cases cq : y < x
  · exact Run.to (fun _ q => XS.icmpYes w.at w.hx rfl (pc0 := pc) rfl hd rfl (XT.ii_gt_t cq) ho h2 q) (k2 cq)
  · exact Run.to (fun _ q => XS.icmpNo w.at w.hx rfl hd rfl (XT.ii_gt_f cq) q) (k1 cq)
theorem s_icmp_le (w : Wk p l e R s m args below meth c Z EL own h0 ws T h cells slots S) {x y : Int32} {o : Int} (hd : decode c.code pc = .ok (.if_icmp .le o, 3)) (ho : 0 ≤ (pc : Int) + o) (h1 : pc + 3 = pc1) (h2 : ((pc : Int) + o).toNat = pc2) (k1 : y < x → Run p e below Q T (mkF m pc1 Ls rest)) (k2 : ¬ (y < x) → Run p e below Q T (mkF m pc2 Ls rest)) : Run p e below Q T (mkF m pc Ls (.int y :: .int x :: rest)) := by
  subst h1
  by_cases cq : y < x
  · exact Run.to (fun _ q => XS.icmpNo w.at w.hx rfl hd rfl (XT.ii_le_f cq) q) (k1 cq)
  · exact Run.to (fun _ q => XS.icmpYes w.at w.hx rfl (pc0 := pc) rfl hd rfl (XT.ii_le_t cq) ho h2 q) (k2 cq)
theorem s_if_eq (w : Wk p l e R s m args below meth c Z EL own h0 ws T h cells slots S) {x : Int32} {o : Int} (hd : decode c.code pc = .ok (.ifCond .eq o, 3)) (ho : 0 ≤ (pc : Int) + o) (h1 : pc + 3 = pc1) (h2 : ((pc : Int) + o).toNat = pc2) (k1 : ¬ (x = 0) → Run p e below Q T (mkF m pc1 Ls rest)) (k2 : x = 0 → Run p e below Q T (mkF m pc2 Ls rest)) : Run p e below Q T (mkF m pc Ls (.int x :: rest)) := by
  subst h1
  by_cases cq : x = 0
  · exact Run.to (fun _ q => XS.ifYes w.at w.hx rfl (pc0 := pc) rfl hd rfl (XT.i0_eq_t cq) ho h2 q) (k2 cq)
  · exact Run.to (fun _ q => XS.ifNo w.at w.hx rfl hd rfl (XT.i0_eq_f cq) q) (k1 cq)
theorem s_if_ne (w : Wk p l e R s m args below meth c Z EL own h0 ws T h cells slots S) {x : Int32} {o : Int} (hd : decode c.code pc = .ok (.ifCond .ne o, 3)) (ho : 0 ≤ (pc : Int) + o) (h1 : pc + 3 = pc1) (h2 : ((pc : Int) + o).toNat = pc2) (k1 : x = 0 → Run p e below Q T (mkF m pc1 Ls rest)) (k2 : ¬ (x = 0) → Run p e below Q T (mkF m pc2 Ls rest)) : Run p e below Q T (mkF m pc Ls (.int x :: rest)) := by
  subst h1
  by_cases cq : x = 0
  · exact Run.to (fun _ q => XS.ifNo w.at w.hx rfl hd rfl (XT.i0_ne_f cq) q) (k1 cq)
  · exact Run.to (fun _ q => XS.ifYes w.at w.hx rfl (pc0 := pc) rfl hd rfl (XT.i0_ne_t cq) ho h2 q) (k2 cq)
theorem s_if_lt (w : Wk p l e R s m args below meth c Z EL own h0 ws T h cells slots S) {x : Int32} {o : Int} (hd : decode c.code pc = .ok (.ifCond .lt o, 3)) (ho : 0 ≤ (pc : Int) + o) (h1 : pc + 3 = pc1) (h2 : ((pc : Int) + o).toNat = pc2) (k1 : ¬ (x < 0) → Run p e below Q T (mkF m pc1 Ls rest)) (k2 : x < 0 → Run p e below Q T (mkF m pc2 Ls rest)) : Run p e below Q T (mkF m pc Ls (.int x :: rest)) := by
  subst h1
  by_cases cq : x < 0
  · exact Run.to (fun _ q => XS.ifYes w.at w.hx rfl (pc0 := pc) rfl hd rfl (XT.i0_lt_t cq) ho h2 q) (k2 cq)
  · exact Run.to (fun _ q => XS.ifNo w.at w.hx rfl hd rfl (XT.i0_lt_f cq) q) (k1 cq)
theorem s_if_ge (w : Wk p l e R s m args below meth c Z EL own h0 ws T h cells slots S) {x : Int32} {o : Int} (hd : decode c.code pc = .ok (.ifCond .ge o, 3)) (ho : 0 ≤ (pc : Int) + o) (h1 : pc + 3 = pc1) (h2 : ((pc : Int) + o).toNat = pc2) (k1 : x < 0 → Run p e below Q T (mkF m pc1 Ls rest)) (k2 : ¬ (x < 0) → Run p e below Q T (mkF m pc2 Ls rest)) : Run p e below Q T (mkF m pc Ls (.int x :: rest)) := by
  subst h1
  by_cases cq : x < 0
  · exact Run.to (fun _ q => XS.ifNo w.at w.hx rfl hd rfl (XT.i0_ge_f cq) q) (k1 cq)
  · exact Run.to (fun _ q => XS.ifYes w.at w.hx rfl (pc0 := pc) rfl hd rfl (XT.i0_ge_t cq) ho h2 q) (k2 cq)
theorem s_if_gt (w : Wk p l e R s m args below meth c Z EL own h0 ws T h cells slots S) {x : Int32} {o : Int} (hd : decode c.code pc = .ok (.ifCond .gt o, 3)) (ho : 0 ≤ (pc : Int) + o) (h1 : pc + 3 = pc1) (h2 : ((pc : Int) + o).toNat = pc2) (k1 : ¬ (0 < x) → Run p e below Q T (mkF m pc1 Ls rest)) (k2 : 0 < x → Run p e below Q T (mkF m pc2 Ls rest)) : Run p e below Q T (mkF m pc Ls (.int x :: rest)) := by
  subst h1
  by_cases cq : 0 < x
  · exact Run.to (fun _ q => XS.ifYes w.at w.hx rfl (pc0 := pc) rfl hd rfl (XT.i0_gt_t cq) ho h2 q) (k2 cq)
  · exact Run.to (fun _ q => XS.ifNo w.at w.hx rfl hd rfl (XT.i0_gt_f cq) q) (k1 cq)
theorem s_if_le (w : Wk p l e R s m args below meth c Z EL own h0 ws T h cells slots S) {x : Int32} {o : Int} (hd : decode c.code pc = .ok (.ifCond .le o, 3)) (ho : 0 ≤ (pc : Int) + o) (h1 : pc + 3 = pc1) (h2 : ((pc : Int) + o).toNat = pc2) (k1 : 0 < x → Run p e below Q T (mkF m pc1 Ls rest)) (k2 : ¬ (0 < x) → Run p e below Q T (mkF m pc2 Ls rest)) : Run p e below Q T (mkF m pc Ls (.int x :: rest)) := by
  subst h1
  by_cases cq : 0 < x
  · exact Run.to (fun _ q => XS.ifNo w.at w.hx rfl hd rfl (XT.i0_le_f cq) q) (k1 cq)
  · exact Run.to (fun _ q => XS.ifYes w.at w.hx rfl (pc0 := pc) rfl hd rfl (XT.i0_le_t cq) ho h2 q) (k2 cq)
theorem s_lif_eq (w : Wk p l e R s m args below meth c Z EL own h0 ws T h cells slots S) {x y : Int64} {o : Int} (hd : decode c.code pc = .ok (.ifCond .eq o, 3)) (ho : 0 ≤ (pc : Int) + o) (h1 : pc + 3 = pc1) (h2 : ((pc : Int) + o).toNat = pc2) (k1 : ¬ (x = y) → Run p e below Q T (mkF m pc1 Ls rest)) (k2 : x = y → Run p e below Q T (mkF m pc2 Ls rest)) : Run p e below Q T (mkF m pc Ls (.int (XT.cmpL x y) :: rest)) := by
  subst h1
  by_cases cq : x = y
  · exact Run.to (fun _ q => XS.ifYes w.at w.hx rfl (pc0 := pc) rfl hd rfl (XT.ll_eq_t cq) ho h2 q) (k2 cq)
  · exact Run.to (fun _ q => XS.ifNo w.at w.hx rfl hd rfl (XT.ll_eq_f cq) q) (k1 cq)
theorem s_lif_ne (w : Wk p l e R s m args below meth c Z EL own h0 ws T h cells slots S) {x y : Int64} {o : Int} (hd : decode c.code pc = .ok (.ifCond .ne o, 3)) (ho : 0 ≤ (pc : Int) + o) (h1 : pc + 3 = pc1) (h2 : ((pc : Int) + o).toNat = pc2) (k1 : x = y → Run p e below Q T (mkF m pc1 Ls rest)) (k2 : ¬ (x = y) → Run p e below Q T (mkF m pc2 Ls rest)) : Run p e below Q T (mkF m pc Ls (.int (XT.cmpL x y) :: rest)) := by
  subst h1
  by_cases cq : x = y
  · exact Run.to (fun _ q => XS.ifNo w.at w.hx rfl hd rfl (XT.ll_ne_f cq) q) (k1 cq)
  · exact Run.to (fun _ q => XS.ifYes w.at w.hx rfl (pc0 := pc) rfl hd rfl (XT.ll_ne_t cq) ho h2 q) (k2 cq)
theorem s_lif_lt (w : Wk p l e R s m args below meth c Z EL own h0 ws T h cells slots S) {x y : Int64} {o : Int} (hd : decode c.code pc = .ok (.ifCond .lt o, 3)) (ho : 0 ≤ (pc : Int) + o) (h1 : pc + 3 = pc1) (h2 : ((pc : Int) + o).toNat = pc2) (k1 : ¬ (x < y) → Run p e below Q T (mkF m pc1 Ls rest)) (k2 : x < y → Run p e below Q T (mkF m pc2 Ls rest)) : Run p e below Q T (mkF m pc Ls (.int (XT.cmpL x y) :: rest)) := by
  subst h1
  by_cases cq : x < y
  · exact Run.to (fun _ q => XS.ifYes w.at w.hx rfl (pc0 := pc) rfl hd rfl (XT.ll_lt_t cq) ho h2 q) (k2 cq)
  · exact Run.to (fun _ q => XS.ifNo w.at w.hx rfl hd rfl (XT.ll_lt_f cq) q) (k1 cq)
theorem s_lif_ge (w : Wk p l e R s m args below meth c Z EL own h0 ws T h cells slots S) {x y : Int64} {o : Int} (hd : decode c.code pc = .ok (.ifCond .ge o, 3)) (ho : 0 ≤ (pc : Int) + o) (h1 : pc + 3 = pc1) (h2 : ((pc : Int) + o).toNat = pc2) (k1 : x < y → Run p e below Q T (mkF m pc1 Ls rest)) (k2 : ¬ (x < y) → Run p e below Q T (mkF m pc2 Ls rest)) : Run p e below Q T (mkF m pc Ls (.int (XT.cmpL x y) :: rest)) := by
  subst h1
  by_cases cq : x < y
  · exact Run.to (fun _ q => XS.ifNo w.at w.hx rfl hd rfl (XT.ll_ge_f cq) q) (k1 cq)
  · exact Run.to (fun _ q => XS.ifYes w.at w.hx rfl (pc0 := pc) rfl hd rfl (XT.ll_ge_t cq) ho h2 q) (k2 cq)
theorem s_lif_gt (w : Wk p l e R s m args below meth c Z EL own h0 ws T h cells slots S) {x y : Int64} {o : Int} (hd : decode c.code pc = .ok (.ifCond .gt o, 3)) (ho : 0 ≤ (pc : Int) + o) (h1 : pc + 3 = pc1) (h2 : ((pc : Int) + o).toNat = pc2) (k1 : ¬ (y < x) → Run p e below Q T (mkF m pc1 Ls rest)) (k2 : y < x → Run p e below Q T (mkF m pc2 Ls rest)) : Run p e below Q T (mkF m pc Ls (.int (XT.cmpL x y) :: rest)) := by
  subst h1
  by_cases cq : y < x
  · exact Run.to (fun _ q => XS.ifYes w.at w.hx rfl (pc0 := pc) rfl hd rfl (XT.ll_gt_t cq) ho h2 q) (k2 cq)
  · exact Run.to (fun _ q => XS.ifNo w.at w.hx rfl hd rfl (XT.ll_gt_f cq) q) (k1 cq)
theorem s_lif_le (w : Wk p l e R s m args below meth c Z EL own h0 ws T h cells slots S) {x y : Int64} {o : Int} (hd : decode c.code pc = .ok (.ifCond .le o, 3)) (ho : 0 ≤ (pc : Int) + o) (h1 : pc + 3 = pc1) (h2 : ((pc : Int) + o).toNat = pc2) (k1 : y < x → Run p e below Q T (mkF m pc1 Ls rest)) (k2 : ¬ (y < x) → Run p e below Q T (mkF m pc2 Ls rest)) : Run p e below Q T (mkF m pc Ls (.int (XT.cmpL x y) :: rest)) := by
  subst h1
  by_cases cq : y < x
  · exact Run.to (fun _ q => XS.ifNo w.at w.hx rfl hd rfl (XT.ll_le_f cq) q) (k1 cq)
  · exact Run.to (fun _ q => XS.ifYes w.at w.hx rfl (pc0 := pc) rfl hd rfl (XT.ll_le_t cq) ho h2 q) (k2 cq)
theorem s_acmp_eq (w : Wk p l e R s m args below meth c Z EL own h0 ws T h cells slots S) {x y : Value} {o : Int} (hd : decode c.code pc = .ok (.if_acmp .eq o, 3)) (hx' : x.isRef = true) (hy' : y.isRef = true) (ho : 0 ≤ (pc : Int) + o) (h1 : pc + 3 = pc1) (h2 : ((pc : Int) + o).toNat = pc2) (k1 : ¬ (x = y) → Run p e below Q T (mkF m pc1 Ls rest)) (k2 : x = y → Run p e below Q T (mkF m pc2 Ls rest)) : Run p e below Q T (mkF m pc Ls (y :: x :: rest)) := by
  subst h1
  by_cases cq : x = y
  · exact Run.to (fun _ q => XT.acmpYes w.at w.hx rfl (pc0 := pc) rfl hd rfl hx' hy' (XT.aa_eq_t cq) ho h2 q) (k2 cq)
  · exact Run.to (fun _ q => XT.acmpNo w.at w.hx rfl hd rfl hx' hy' (XT.aa_eq_f cq) q) (k1 cq)
theorem s_acmp_ne (w : Wk p l e R s m args below meth c Z EL own h0 ws T h cells slots S) {x y : Value} {o : Int} (hd : decode c.code pc = .ok (.if_acmp .ne o, 3)) (hx' : x.isRef = true) (hy' : y.isRef = true) (ho : 0 ≤ (pc : Int) + o) (h1 : pc + 3 = pc1) (h2 : ((pc : Int) + o).toNat = pc2) (k1 : x = y → Run p e below Q T (mkF m pc1 Ls rest)) (k2 : ¬ (x = y) → Run p e below Q T (mkF m pc2 Ls rest)) : Run p e below Q T (mkF m pc Ls (y :: x :: rest)) := by
  subst h1
  by_cases cq : x = y
  · exact Run.to (fun _ q => XT.acmpNo w.at w.hx rfl hd rfl hx' hy' (XT.aa_ne_f cq) q) (k1 cq)
  · exact Run.to (fun _ q => XT.acmpYes w.at w.hx rfl (pc0 := pc) rfl hd rfl hx' hy' (XT.aa_ne_t cq) ho h2 q) (k2 cq)
theorem s_ifnull_no (w : Wk p l e R s m args below meth c Z EL own h0 ws T h cells slots S) {b : Addr} {o : Int} (hd : decode c.code pc = .ok (.ifnull o, 3)) (hp : pc + 3 = pc') (k : Run p e below Q T (mkF m pc' Ls rest)) : Run p e below Q T (mkF m pc Ls (.ref b :: rest)) := by
  subst hp; exact Run.to (fun _ q => XS.ifnullNo w.at w.hx rfl hd rfl q) k
theorem s_ifnull_yes (w : Wk p l e R s m args below meth c Z EL own h0 ws T h cells slots S) {o : Int} (hd : decode c.code pc = .ok (.ifnull o, 3)) (ho : 0 ≤ (pc : Int) + o) (hp : ((pc : Int) + o).toNat = pc') (k : Run p e below Q T (mkF m pc' Ls rest)) : Run p e below Q T (mkF m pc Ls (.null :: rest)) :=
  Run.to (fun _ q => XS.ifnullYes w.at w.hx rfl (pc0 := pc) rfl hd rfl ho hp q) k
theorem s_ifnonnull_yes (w : Wk p l e R s m args below meth c Z EL own h0 ws T h cells slots S) {b : Addr} {o : Int} (hd : decode c.code pc = .ok (.ifnonnull o, 3)) (ho : 0 ≤ (pc : Int) + o) (hp : ((pc : Int) + o).toNat = pc') (k : Run p e below Q T (mkF m pc' Ls rest)) : Run p e below Q T (mkF m pc Ls (.ref b :: rest)) :=
  Run.to (fun _ q => XT.ifnonnullYes w.at w.hx rfl (pc0 := pc) rfl hd rfl ho hp q) k
theorem s_ifnonnull_no (w : Wk p l e R s m args below meth c Z EL own h0 ws T h cells slots S) {o : Int} (hd : decode c.code pc = .ok (.ifnonnull o, 3)) (hp : pc + 3 = pc') (k : Run p e below Q T (mkF m pc' Ls rest)) : Run p e below Q T (mkF m pc Ls (.null :: rest)) := by
  subst hp; exact Run.to (fun _ q => XT.ifnonnullNo w.at w.hx rfl hd rfl q) k


/-! steps that read the tables or the heap -/
theorem w_getF (w : Wk p l e R s m args below meth c Z EL own h0 ws T h cells slots S) {R0 O n d : String} {index : Nat} (wl : (Jvm.Cond.fieldLink own index R0 n d).before a0 Z = true) (via : Via Z R0 O n d) {a : Addr} {v : Value} (F : Fld Z h a O n d v) (hd : decode c.code pc = .ok (.getfield index, 3)) (hp : pc + 3 = pc')
    (k : ∀ T', Wk p l e R s m args below meth c Z EL own h0 ws T' h cells slots S → Run p e below Q T' (mkF m pc' Ls (v :: rest))) : Run p e below Q T (mkF m pc Ls (.ref a :: rest)) := by
  obtain ⟨vm0, k0, locs, hx, X, eT, r⟩ := w
  obtain ⟨T', X', e', stp⟩ := getF X hx r.hZ (host := "") r.ow (Or.inl wl) via eT F (g := mkF m pc Ls (.ref a :: rest)) rfl rfl hd
  subst hp
  exact Run.to stp (k T' ⟨vm0, k0, locs, hx, X', e', r⟩)
theorem w_getS (w : Wk p l e R s m args below meth c Z EL own h0 ws T h cells slots S) {R0 O n d : String} {index : Nat} (wl : (Jvm.Cond.fieldLink own index R0 n d).before a0 Z = true) (via : Via Z R0 O n d) {v : Value} (F : Sta Z h O n d v) (hd : decode c.code pc = .ok (.getstatic index, 3)) (hp : pc + 3 = pc')
    (k : ∀ T', Wk p l e R s m args below meth c Z EL own h0 ws T' h cells slots S → Run p e below Q T' (mkF m pc' Ls (v :: st))) : Run p e below Q T (mkF m pc Ls st) := by
  obtain ⟨vm0, k0, locs, hx, X, eT, r⟩ := w
  obtain ⟨T', X', e', stp⟩ := getS (host := "") X hx r.hZ r.ow wl via eT F (g := mkF m pc Ls st) rfl hd
  subst hp
  exact Run.to stp (k T' ⟨vm0, k0, locs, hx, X', e', r⟩)
theorem w_cast (w : Wk p l e R s m args below meth c Z EL own h0 ws T h cells slots S) {K : String} {index : Nat} (wl : (Jvm.Cond.classLink own index K).before a0 Z = true) {a : Addr} (F : Ins Z h a K true) (hd : decode c.code pc = .ok (.checkcast index, 3)) (hp : pc + 3 = pc')
    (k : ∀ T', Wk p l e R s m args below meth c Z EL own h0 ws T' h cells slots S → Run p e below Q T' (mkF m pc' Ls (.ref a :: rest))) : Run p e below Q T (mkF m pc Ls (.ref a :: rest)) := by
  obtain ⟨vm0, k0, locs, hx, X, eT, r⟩ := w
  obtain ⟨T', X', e', stp⟩ := castY X hx r.hZ r.ow wl eT F (g := mkF m pc Ls (.ref a :: rest)) rfl rfl hd
  subst hp
  exact Run.to stp (k T' ⟨vm0, k0, locs, hx, X', e', r⟩)
theorem w_inst (w : Wk p l e R s m args below meth c Z EL own h0 ws T h cells slots S) {K : String} {index : Nat} (wl : (Jvm.Cond.classLink own index K).before a0 Z = true) {a : Addr} (F : Ins Z h a K true) (hd : decode c.code pc = .ok (.instanceof index, 3)) (hp : pc + 3 = pc')
    (k : ∀ T', Wk p l e R s m args below meth c Z EL own h0 ws T' h cells slots S → Run p e below Q T' (mkF m pc' Ls (.int 1 :: rest))) : Run p e below Q T (mkF m pc Ls (.ref a :: rest)) := by
  obtain ⟨vm0, k0, locs, hx, X, eT, r⟩ := w
  obtain ⟨T', X', e', stp⟩ := instY X hx r.hZ r.ow wl eT F (g := mkF m pc Ls (.ref a :: rest)) rfl rfl hd
  subst hp
  exact Run.to stp (k T' ⟨vm0, k0, locs, hx, X', e', r⟩)
theorem w_instNo (w : Wk p l e R s m args below meth c Z EL own h0 ws T h cells slots S) {K C : String} {index : Nat} (wl : (Jvm.Cond.classLink own index K).before a0 Z = true) {a : Addr} (E : Exa Z h a C) (F : ∃ c t, Z.vm.findClass C = some c ∧ Z.vm.findClass K = some t ∧ Z.vm.assignable c t = false) (hd : decode c.code pc = .ok (.instanceof index, 3)) (hp : pc + 3 = pc')
    (k : ∀ T', Wk p l e R s m args below meth c Z EL own h0 ws T' h cells slots S → Run p e below Q T' (mkF m pc' Ls (.int 0 :: rest))) : Run p e below Q T (mkF m pc Ls (.ref a :: rest)) := by
  obtain ⟨vm0, k0, locs, hx, X, eT, r⟩ := w
  obtain ⟨T', X', e', stp⟩ := instNo X hx r.hZ r.ow wl eT E F (g := mkF m pc Ls (.ref a :: rest)) rfl rfl hd
  subst hp
  exact Run.to stp (k T' ⟨vm0, k0, locs, hx, X', e', r⟩)
theorem w_instNull (w : Wk p l e R s m args below meth c Z EL own h0 ws T h cells slots S) {index : Nat} (hd : decode c.code pc = .ok (.instanceof index, 3)) (hp : pc + 3 = pc') (k : Run p e below Q T (mkF m pc' Ls (.int 0 :: rest))) : Run p e below Q T (mkF m pc Ls (.null :: rest)) := by
  obtain ⟨vm0, k0, locs, hx, X, eT, r⟩ := w
  subst hp
  exact Run.to (X.instanceofNull hx (g := mkF m pc Ls (.null :: rest)) rfl rfl hd) k
theorem w_castNull (w : Wk p l e R s m args below meth c Z EL own h0 ws T h cells slots S) {index : Nat} (hd : decode c.code pc = .ok (.checkcast index, 3)) (hp : pc + 3 = pc') (k : Run p e below Q T (mkF m pc' Ls (.null :: rest))) : Run p e below Q T (mkF m pc Ls (.null :: rest)) := by
  obtain ⟨vm0, k0, locs, hx, X, eT, r⟩ := w
  subst hp
  exact Run.to (X.checkcastNull hx (g := mkF m pc Ls (.null :: rest)) rfl rfl hd) k
theorem w_new (w : Wk p l e R s m args below meth c Z EL own h0 ws T h cells slots S) {C : String} {index n : Nat} (wl : (Jvm.Cond.classLink own index C).before a0 Z = true) (wi : (Jvm.Cond.instantiable C n).before a0 Z = true) (wz : (Jvm.Cond.initialized C).before a0 Z = true) (hd : decode c.code pc = .ok (.new index, 3)) (hp : pc + 3 = pc') (hc : cells + 1 ≤ R.cells) (hl : slots + n ≤ R.slots)
    (k : ∀ T' h' x, Wk p l e R s m args below meth c Z EL own h0 ws T' h' (cells + 1) (slots + n) (x :: S) → Ext h h' → h.size ≤ x → h0.size ≤ x → Exa Z h' x C → (∀ {O nm d : String} {ty : FieldType}, Laid Z a0 C O nm d → parseFieldDescriptor d = some ty → Fld Z h' x O nm d (defaultValue ty)) → Run p e below Q T' (mkF m pc' Ls (.ref x :: st))) : Run p e below Q T (mkF m pc Ls st) := by
  obtain ⟨vm0, k0, locs, hx, X, eT, r⟩ := w
  obtain ⟨T', h', X', e', E, A, D, -, stp⟩ := newO X hx r.hZ r.ow wl wi wz eT (g := mkF m pc Ls st) rfl hd hc hl
  subst hp
  exact Run.to stp (k T' h' h.size ⟨vm0, k0, locs, hx, X', e', r.add E (Nat.le_refl _) A.lt⟩ E (Nat.le_refl _) r.keep.1 A D)
/-- a new array of a primitive kind: its n places hold their first value -/
theorem w_newP (w : Wk p l e R s m args below meth c Z EL own h0 ws T h cells slots S) {aty : ArrayType} {ty : FieldType} {z : Int32} {n : Nat} {dv : Value} (wl : (Jvm.Cond.arrayClass ty).before a0 Z = true) (hty : newarray.typeOf aty = ty) (hdv : defaultValue ty = dv) (hd : decode c.code pc = .ok (.newarray aty, 2)) (hz : ¬ z < 0) (hn : z.toNatClampNeg ≤ n) (hb : n * 8 ≤ 536870912) (hp : pc + 2 = pc') (hc : cells + 1 ≤ R.cells) (hl : slots + n ≤ R.slots)
    (k : ∀ T' h' x ka, Wk p l e R s m args below meth c Z EL own h0 ws T' h' (cells + 1) (slots + n) (x :: S) → Ext h h' → h.size ≤ x → h0.size ≤ x → Arv Z h' x ka ty z (List.replicate n dv) dv → Run p e below Q T' (mkF m pc' Ls (.ref x :: rest))) : Run p e below Q T (mkF m pc Ls (.int z :: rest)) := by
  obtain ⟨vm0, k0, locs, hx, X, eT, r⟩ := w
  subst hty hdv hp
  obtain ⟨T', h', kA, X', e', E, A, stp⟩ := newP X hx r.hZ wl eT (g := mkF m pc Ls (.int z :: rest)) rfl hd rfl hz hn hb hc hl
  have V := (Arv.new A hz).pad (pad_rep [] _ n)
  exact Run.to stp (k T' h' h.size kA ⟨vm0, k0, locs, hx, X', e', r.add E (Nat.le_refl _) A.lt⟩ E (Nat.le_refl _) r.keep.1 V)
theorem w_stC (w : Wk p l e R s m args below meth c Z EL own h0 ws T h cells slots S) {a : Addr} {ka : ClassId} {z j x x' : Int32} {vs : List Value} {dv : Value} (V : Arv Z h a ka .char z vs dv) {i : Nat} (hj : ¬ j < 0) (hi : j.toNatClampNeg = i) (hiz : i < z.toNatClampNeg) (hiv : i < vs.length) (hx' : nar .char x = x') (hd : decode c.code pc = .ok (.castore, 1)) (q : a ∈ ws ∨ h0.size ≤ a) (hp : pc + 1 = pc')
    (k : ∀ T' h', Wk p l e R s m args below meth c Z EL own h0 ws T' h' cells slots S → Wr h h' a i (.int x') → Arv Z h' a ka .char z (vs.set i (.int x')) dv → Run p e below Q T' (mkF m pc' Ls rest)) : Run p e below Q T (mkF m pc Ls (.int x :: .int j :: .ref a :: rest)) := by
  obtain ⟨vm0, k0, locs, hx, X, eT, r⟩ := w
  obtain ⟨cl, A, q1, q2, q3, q4, q5⟩ := V
  have hin : ¬ (j < 0 ∨ cl.slots.size ≤ j.toNatClampNeg) := by rw [q2, hi]; rintro (z | z); exact hj z; omega
  obtain ⟨T', h', X', e', Wq, stp⟩ := stC X hx r.hZ eT A hin (g := mkF m pc Ls (.int x :: .int j :: .ref a :: rest)) rfl rfl hd
  subst hp hx'
  have V' := Arv.set A q1 q2 q3 q4 q5 (fits_nar_char x) Wq i hi hiv
  rw [hi] at Wq
  have r' := r.wr Wq (Safe.arr r.hZ.alike A (by decide)) q
  rw [hi] at X'
  exact Run.to stp (k T' h' ⟨vm0, k0, _, hx, X', e', r'⟩ Wq V')
theorem w_stB (w : Wk p l e R s m args below meth c Z EL own h0 ws T h cells slots S) {a : Addr} {ka : ClassId} {z j x x' : Int32} {vs : List Value} {dv : Value} (V : Arv Z h a ka .byte z vs dv) {i : Nat} (hj : ¬ j < 0) (hi : j.toNatClampNeg = i) (hiz : i < z.toNatClampNeg) (hiv : i < vs.length) (hx' : nar .byte x = x') (hd : decode c.code pc = .ok (.bastore, 1)) (q : a ∈ ws ∨ h0.size ≤ a) (hS : a ∈ S) (hp : pc + 1 = pc')
    (k : ∀ T' h', Wk p l e R s m args below meth c Z EL own h0 ws T' h' cells slots S → Wr h h' a i (.int x') → Arv Z h' a ka .byte z (vs.set i (.int x')) dv → Run p e below Q T' (mkF m pc' Ls rest)) : Run p e below Q T (mkF m pc Ls (.int x :: .int j :: .ref a :: rest)) := by
  obtain ⟨vm0, k0, locs, hx, X, eT, r⟩ := w
  obtain ⟨cl, A, q1, q2, q3, q4, q5⟩ := V
  have hin : ¬ (j < 0 ∨ cl.slots.size ≤ j.toNatClampNeg) := by rw [q2, hi]; rintro (z | z); exact hj z; omega
  obtain ⟨T', h', X', e', Wq, stp⟩ := stB X hx r.hZ eT A hin (g := mkF m pc Ls (.int x :: .int j :: .ref a :: rest)) rfl rfl hd
  subst hp hx'
  have V' := Arv.set A q1 q2 q3 q4 q5 (fits_nar_byte x) Wq i hi hiv
  rw [hi] at Wq
  have r' := r.wr Wq (r.2.2.2.2.2.2.2.2.2 a hS).2 q
  rw [hi] at X'
  exact Run.to stp (k T' h' ⟨vm0, k0, _, hx, X', e', r'⟩ Wq V')
theorem w_len (w : Wk p l e R s m args below meth c Z EL own h0 ws T h cells slots S) {a : Addr} {ka : ClassId} {ty : FieldType} {z : Int32} {vs : List Value} {dv : Value} (V : Arv Z h a ka ty z vs dv) (hd : decode c.code pc = .ok (.arraylength, 1)) (hp : pc + 1 = pc')
    (k : Run p e below Q T (mkF m pc' Ls (.int z :: rest))) : Run p e below Q T (mkF m pc Ls (.ref a :: rest)) := by
  obtain ⟨vm0, k0, locs, hx, X, eT, r⟩ := w
  obtain ⟨cl, A, q1, q2, q3, q4, q5⟩ := V
  subst hp
  rw [← len_of q2 q3] at k
  exact Run.to (X.arraylength hx (by rw [eT]; exact A.1) (State.isArrayOf_alike r.hZ.alike A.2.1) (g := mkF m pc Ls (.ref a :: rest)) rfl rfl hd) k
theorem w_ldC (w : Wk p l e R s m args below meth c Z EL own h0 ws T h cells slots S) {a : Addr} {ka : ClassId} {z j : Int32} {vs : List Value} {dv v : Value} (V : Arv Z h a ka .char z vs dv) {i : Nat} (hj : ¬ j < 0) (hi : j.toNatClampNeg = i) (hiz : i < z.toNatClampNeg) (hv : vs.getD i dv = v) (hd : decode c.code pc = .ok (.caload, 1)) (hp : pc + 1 = pc')
    (k : Run p e below Q T (mkF m pc' Ls (v :: rest))) : Run p e below Q T (mkF m pc Ls (.int j :: .ref a :: rest)) := by
  obtain ⟨vm0, k0, locs, hx, X, eT, r⟩ := w
  obtain ⟨cl, A, q1, q2, q3, q4, q5⟩ := V
  have hin : ¬ (j < 0 ∨ cl.slots.size ≤ j.toNatClampNeg) := by rw [q2, hi]; rintro (z | z); exact hj z; omega
  subst hp
  exact Run.to (X.caload hx (j := j) (v := v) (by rw [eT]; exact A.1) (State.isArrayOf_alike r.hZ.alike A.2.1) A.2.2 hin (q4.at hin (by rw [hi]; exact hv)) (g := mkF m pc Ls (.int j :: .ref a :: rest)) rfl rfl hd) k
theorem w_ldB (w : Wk p l e R s m args below meth c Z EL own h0 ws T h cells slots S) {a : Addr} {ka : ClassId} {z j : Int32} {vs : List Value} {dv v : Value} (V : Arv Z h a ka .byte z vs dv) {i : Nat} (hj : ¬ j < 0) (hi : j.toNatClampNeg = i) (hiz : i < z.toNatClampNeg) (hv : vs.getD i dv = v) (hd : decode c.code pc = .ok (.baload, 1)) (hp : pc + 1 = pc')
    (k : Run p e below Q T (mkF m pc' Ls (v :: rest))) : Run p e below Q T (mkF m pc Ls (.int j :: .ref a :: rest)) := by
  obtain ⟨vm0, k0, locs, hx, X, eT, r⟩ := w
  obtain ⟨cl, A, q1, q2, q3, q4, q5⟩ := V
  have hin : ¬ (j < 0 ∨ cl.slots.size ≤ j.toNatClampNeg) := by rw [q2, hi]; rintro (z | z); exact hj z; omega
  subst hp
  exact Run.to (X.baloadBytes hx (j := j) (v := v) (by rw [eT]; exact A.1) (State.isArrayOf_alike r.hZ.alike A.2.1) A.2.2 hin (q4.at hin (by rw [hi]; exact hv)) (g := mkF m pc Ls (.int j :: .ref a :: rest)) rfl rfl hd) k
/-- putfield: into an object that no constant books (by its class, or one of S) -/
theorem w_putF (w : Wk p l e R s m args below meth c Z EL own h0 ws T h cells slots S) {R0 O n d C : String} {index kk : Nat} {ty : FieldType} (wl : (Jvm.Cond.fieldLink own index R0 n d).before a0 Z = true) (via : Via Z R0 O n d) {a : Addr} {v old : Value} (F : Fld Z h a O n d old) (E : Exa Z h a C) (L : (Jvm.Cond.lays C O n d).before a0 Z = true ∨ ((Jvm.Cond.laysFinal C O n d).before a0 Z = true ∧ own = O ∧ meth.name = "<init>")) (wi : (Jvm.Cond.instantiable C kk).before a0 Z = true)
    (hty : parseFieldDescriptor d = some ty) (hn : narrow ty v = v) (hf : fits ty v = true) (hd : decode c.code pc = .ok (.putfield index, 3)) (q : a ∈ ws ∨ h0.size ≤ a) (hS : (C ≠ "java/lang/String" ∧ C ≠ "[B") ∨ a ∈ S) (hp : pc + 3 = pc')
    (k : ∀ T' h', Wk p l e R s m args below meth c Z EL own h0 ws T' h' cells slots S → Wr h h' a (Jvm.RoadKit.slotOf Z O n d) v → Fld Z h' a O n d v → Exa Z h' a C → Run p e below Q T' (mkF m pc' Ls rest)) : Run p e below Q T (mkF m pc Ls (v :: .ref a :: rest)) := by
  obtain ⟨vm0, k0, locs, hx, X, eT, r⟩ := w
  obtain ⟨T', h', X', e', Wq, stp⟩ := putF X hx r.hZ (host := "") r.ow (Or.inl wl) via eT F E L wi hty hn hf (g := mkF m pc Ls (v :: .ref a :: rest)) rfl rfl hd
  subst hp
  have Sa : Safe Z EL vm0 h a := by
    rcases hS with hS | hS
    · exact Safe.exa r.hZ.alike E hS.1 hS.2
    · exact (r.2.2.2.2.2.2.2.2.2 a hS).2
  exact Run.to stp (k T' h' ⟨vm0, k0, _, hx, X', e', r.wr Wq Sa q⟩ Wq (F.same Wq) (E.wr Wq))
theorem w_objInit (w : Wk p l e R s m args below meth c Z EL own h0 ws T h cells slots S) {idx : Nat} (w1 : (Jvm.Cond.methodLink own idx Lib.objectInit).before a0 Z = true) (w2 : (Jvm.Cond.instanceMethod Lib.objectInit).before a0 Z = true) (w3 : (Jvm.Cond.code Lib.objectInit ⟨#[0xb1]⟩ 1 none).before a0 Z = true) {a : Addr} (hd : decode c.code pc = .ok (.invokespecial idx, 3)) (hsz : Ls.size = c.maxLocals) (hf : 1 ≤ R.frames) {W : Nat} (hW : (rest.map fun v => v.category).sum ≤ W) (hl : W + 12 ≤ R.locals) (hp : pc + 3 = pc')
    (k : ∀ T', Wk p l e R s m args below meth c Z EL own h0 ws T' h cells slots S → Run p e below Q T' (mkF m pc' Ls rest)) : Run p e below Q T (mkF m pc Ls (.ref a :: rest)) := by
  obtain ⟨vm0, k0, locs, hx, X, eT, r⟩ := w
  obtain ⟨T', X', e', stp⟩ := initO X hx r.hZ r.ow w1 w2 w3 eT (g := mkF m pc Ls (.ref a :: rest)) rfl hsz rfl hd hf (W := W) (by show 2 * 0 + _ ≤ _; omega) hl
  subst hp
  exact Run.to stp (k T' ⟨vm0, k0, locs, hx, X', e', r⟩)
theorem w_ldcI (w : Wk p l e R s m args below meth c Z EL own h0 ws T h cells slots S) {index : Nat} {v : Int32} (wl : (Jvm.Cond.constant own index v).before a0 Z = true) (hd : decode c.code pc = .ok (.ldc index, 2)) (hp : pc + 2 = pc') (k : Run p e below Q T (mkF m pc' Ls (.int v :: st))) : Run p e below Q T (mkF m pc Ls st) := by
  obtain ⟨vm0, k0, locs, hx, X, eT, r⟩ := w
  subst hp
  exact Run.to (fun _ q => X.ldcI hx r.ow (mvT r.hZ wl) (g := mkF m pc Ls st) rfl hd q) k
theorem w_ldcJ (w : Wk p l e R s m args below meth c Z EL own h0 ws T h cells slots S) {index : Nat} {v : Int64} (wl : (Jvm.Cond.constantLong own index v).before a0 Z = true) (hd : decode c.code pc = .ok (.ldc2_w index, 3)) (hp : pc + 3 = pc') (k : Run p e below Q T (mkF m pc' Ls (.long v :: st))) : Run p e below Q T (mkF m pc Ls st) := by
  obtain ⟨vm0, k0, locs, hx, X, eT, r⟩ := w
  subst hp
  exact Run.to (fun _ q => X.ldc2J hx r.ow (mvT r.hZ wl) (g := mkF m pc Ls st) rfl hd q) k
/-- ldc of a String constant that is one of EL: read -/
theorem w_ldcS (w : Wk p l e R s m args below meth c Z EL own h0 ws T h cells slots S) (hEL : EW Z a0 EL) {text : String} {index : Nat} (wl : (Jvm.Cond.stringLink own index text).before a0 Z = true) (wS : ∀ a ∈ Bundle.stringAtoms, a.before a0 Z = true) (hmem : (own, index) ∈ EL) {vs : List Value} {z : Int32} {n : Nat}
    (ht : (∀ c ∈ text.toList, c.toNat < 256) ∧ text.toList.map (fun c => Value.int (Jvm.Lit.byteI c.toNat.toUInt16)) = vs) (hz : ¬ z < 0) (hl : z.toNatClampNeg = vs.length) (hn : 4 * text.toList.length ≤ n) (hbig : n ≤ 536870912) (hd : decode c.code pc = .ok (.ldc index, 2)) (hp : pc + 2 = pc') (hc : cells + 2 ≤ R.cells) (hl' : slots + (n + 4) ≤ R.slots)
    (k : ∀ T' h' x t kb, Wk p l e R s m args below meth c Z EL own h0 ws T' h' (cells + 2) (slots + (n + 4)) S → Ext h h' → Exa Z h' x "java/lang/String" → Fld Z h' x "java/lang/String" "coder" "B" (.int 0) → Fld Z h' x "java/lang/String" "value" "[B" (.ref t) → Arv Z h' t kb .byte z vs (.int 0) → (∀ y ∈ S, y ≠ x ∧ y ≠ t) → Run p e below Q T' (mkF m pc' Ls (.ref x :: st))) : Run p e below Q T (mkF m pc Ls st) := by
  obtain ⟨vm0, k0, locs, hx, X, eT, r⟩ := w
  obtain ⟨x, T', h', k1, t, kb, X', e', E, hS, hk1, hZ', hown', A, C, V, K, -, -, hCH, -, hne, stp⟩ := ldcCH X hx r.hZ r.ow wl wS eT r.1 r.2.1 hEL hmem r.ch ht hz hl (g := mkF m pc Ls st) rfl hd hn hbig hc hl'
  subst hp
  obtain ⟨a1, a2, a3, a4, a5, a6, a7, a8, a9, a10⟩ := r
  have hs : ∀ y ∈ S, y < h'.size ∧ Safe Z EL T'.vm h' y := fun y q => ⟨Nat.lt_of_lt_of_le (a10 y q).1 E.1, hCH.safe (a10 y q).1 (a10 y q).2⟩
  exact Run.to stp (k T' h' x t kb ⟨T'.vm, k1, locs, hx, X', e', hS, hk1, hZ', hown', a5.trans hCH, a6, a7.ext E, a8, a9, hs⟩ E A C V K fun y q => hne y (hs y q).2)
/-- ldc of any String constant: what it pushes is a reference -/
theorem w_ldcO (w : Wk p l e R s m args below meth c Z EL own h0 ws T h cells slots S) (hEL : EW Z a0 EL) {text : String} {index : Nat} (wl : (Jvm.Cond.stringLink own index text).before a0 Z = true) (wS : ∀ a ∈ Bundle.stringAtoms, a.before a0 Z = true) {n : Nat} (hn : 4 * text.toList.length ≤ n) (hbig : n ≤ 536870912) (hd : decode c.code pc = .ok (.ldc index, 2)) (hp : pc + 2 = pc') (hc : cells + 2 ≤ R.cells) (hl' : slots + (n + 4) ≤ R.slots)
    (k : ∀ T' h' x, Wk p l e R s m args below meth c Z EL own h0 ws T' h' (cells + 2) (slots + (n + 4)) S → Ext h h' → Run p e below Q T' (mkF m pc' Ls (.ref x :: st))) : Run p e below Q T (mkF m pc Ls st) := by
  obtain ⟨vm0, k0, locs, hx, X, eT, r⟩ := w
  obtain ⟨x, T', h', k1, X', e', E, hS, hk1, hZ', hown', hCH, -, stp⟩ := ldcOH X hx r.hZ r.ow wl wS eT r.1 r.2.1 hEL r.ch (g := mkF m pc Ls st) rfl hd hn hbig hc hl'
  subst hp
  obtain ⟨a1, a2, a3, a4, a5, a6, a7, a8, a9, a10⟩ := r
  exact Run.to stp (k T' h' x ⟨T'.vm, k1, locs, hx, X', e', hS, hk1, hZ', hown', a5.trans hCH, a6, a7.ext E, a8, a9, fun y q => ⟨Nat.lt_of_lt_of_le (a10 y q).1 E.1, hCH.safe (a10 y q).1 (a10 y q).2⟩⟩ E)
/-! contracts -/
/-- what a body promises at its end -/
def Qm (Z : State) (EL : List (String × Nat)) (s : State) (h0 : Heap) (ws : List Addr) (rm : Room) (P : Option Value → Heap → Prop) (o : Outcome) (U' : State) : Prop :=
  ∃ v L, o = .returned v ∧ (Fr Z.heap.size L ∧ Keep h0 U'.heap ws ∧ P v U'.heap) ∧ CHr Z EL s.vm s.heap U'.vm U'.heap ∧ ReturnedEndW s o U' L rm.cells rm.slots
def Pm (Z : State) (EL : List (String × Nat)) (as' : Array Value) (h : Heap) (S ws : List Addr) (a : Array Value) (U : State) : Prop := a = as' ∧ Z.Warmed39 U.vm ∧ U.heap = h ∧ CHv Z EL U.vm h ∧ Ext Z.heap h ∧ (∀ x ∈ ws, Z.heap.size ≤ x) ∧ ∀ x ∈ S, x < h.size ∧ Safe Z EL U.vm h x
def Met (l : Launch) (Z : State) (EL : List (String × Nat)) (y : MethodName) (bytes : ByteArray) (maxL : Nat) (ret : Option FieldType) (rm : Room) (as' : Array Value) (h : Heap) (S ws : List Addr) (P : Option Value → Heap → Prop) : Prop :=
  ∀ wl : List Jvm.Cond, MetFree l y (head1 (Jvm.Cond.code y bytes maxL ret :: wl) rm) (Pm Z EL as' h S ws) (fun _ _ _ _ _ => True) (fun _ U o U' => Qm Z EL U h ws rm P o U')
/-- a body's contract: walk it from its first frame -/
theorem Met.of {y : MethodName} {bytes : ByteArray} {maxL : Nat} {ret : Option FieldType} {rm : Room} {as' : Array Value} {P : Option Value → Heap → Prop} (hpn : plainFor y = true)
    (body : ∀ p e s m below meth c T, meth.name = y.name → meth.sig.returnType = ret → meth.locks = false → c.code = bytes → c.maxLocals = maxL → s.heap = h0 → Wk p l e rm s m as' below meth c Z EL y.cls h0 ws T h0 0 0 S → Run p e below (Qm Z EL s h0 ws rm P) T (entryFrame m as' maxL)) : Met l Z EL y bytes maxL ret rm as' h0 S ws P := by
  intro wl
  refine MetFree.of_bodySF (code := bytes) (maxLocals := maxL) (ret := ret) hpn hisR ?_
  intro p e s m args below meth c s₁ Bd hml0 hP hK
  obtain ⟨rfl, hZ, hh, hC, hn, hws, hS⟩ := hP
  have hnm := (name_of_methodNamed Bd.named Bd.method).1
  have hown : s.vm.findClass y.cls = some m.cls := findClass_of_methodNamed Bd.named
  have X0 : Stand p l e rm s m args below meth c s₁ [] 0 0 := Stand.of_body Bd
  have e0 : s₁.heap = h0 := by rw [← hh, Bd.state]; rfl
  exact body p e s m below meth c s₁ hnm Bd.returns Bd.notSynchronized Bd.bytes hml0 hh ⟨s.vm, 0, [], Bd.exec, X0, e0, (State.WarmedH.refl s).since 0, Nat.zero_le _, hZ, hown, CHr.refl hC, Fr.nil _, Keep.refl _ _, hn, hws, hS⟩
/-- the end of a walk -/
theorem w_ret (w : Wk p l e R s m args below meth c Z EL own h0 ws T h cells slots S) (hEL : EW Z a0 EL) (hs : s.heap = h0) (hlk : meth.locks = false) {v : Option Value} (hv : meth.sig.returnType = none → v = none) {P : Option Value → Heap → Prop} (hP : P v h) (hc : cells ≤ R.cells) (hl : slots ≤ R.slots)
    (stp : ∀ {vm0 : Vm} {locs : List Loc}, Stand p l e R (s.setVm vm0) m args below meth c T locs cells slots → ∀ fs, (∀ (f : JFrame) (acts : List Action), f.method = m → f.locked = none → f.entered = [] → (doReturn e (T.setTop f) acts v).1 = T.setFrames fs) → Steps p.tables e below (T.setTop g) (T.setFrames fs)) : Run p e below (Qm Z EL s h0 ws R P) T g := by
  obtain ⟨vm0, k0, locs, hx, X, eT, r⟩ := w
  obtain ⟨fs, hr, hrun, hended, hE⟩ := X.leaveW r.1 (by rw [eT]; exact r.2.1) hv
  refine ⟨_, _, stp X fs hr, hrun, hended, v, locs, rfl, ⟨r.2.2.2.2.2.1, ?_, ?_⟩, ?_, hE.1, hE.2.1, hE.2.2.1, hE.2.2.2.mono hc hl⟩
  · show Keep h0 T.heap ws
    rw [eT]; exact r.keep
  · show P v T.heap
    rw [eT]; exact hP
  · show CHr Z EL s.vm s.heap T.vm T.heap
    rw [eT, hs]
    exact r.2.2.2.2.1.trans (CHv.at X r.hZ hEL r.ch)
theorem w_ireturn (w : Wk p l e R s m args below meth c Z EL own h0 ws T h cells slots S) (hEL : EW Z a0 EL) (hs : s.heap = h0) (hlk : meth.locks = false) {t : FieldType} {z : Int32} (hret : meth.sig.returnType = some t) (hn : narrow t (.int z) = .int z) (ht : t = .int ∨ t = .boolean ∨ t = .byte ∨ t = .char ∨ t = .short) {P : Option Value → Heap → Prop} (hd : decode c.code pc = .ok (.ireturn, 1)) (hc : cells ≤ R.cells) (hl : slots ≤ R.slots) (hP : P (some (.int z)) h) : Run p e below (Qm Z EL s h0 ws R P) T (mkF m pc Ls [.int z]) :=
  w_ret w hEL hs hlk (v := some (.int z)) (fun q => by rw [hret] at q; cases q) hP hc hl fun X fs hr => X.ireturnOut w.hx hret hn ht hd hr
theorem w_lreturn (w : Wk p l e R s m args below meth c Z EL own h0 ws T h cells slots S) (hEL : EW Z a0 EL) (hs : s.heap = h0) (hlk : meth.locks = false) {z : Int64} (hret : meth.sig.returnType = some .long) {P : Option Value → Heap → Prop} (hd : decode c.code pc = .ok (.lreturn, 1)) (hc : cells ≤ R.cells) (hl : slots ≤ R.slots) (hP : P (some (.long z)) h) : Run p e below (Qm Z EL s h0 ws R P) T (mkF m pc Ls [.long z]) :=
  w_ret w hEL hs hlk (v := some (.long z)) (fun q => by rw [hret] at q; cases q) hP hc hl fun X fs hr => X.lreturnOut w.hx hret hd hr
theorem w_areturn (w : Wk p l e R s m args below meth c Z EL own h0 ws T h cells slots S) (hEL : EW Z a0 EL) (hs : s.heap = h0) (hlk : meth.locks = false) {t : FieldType} {v : Value} (hret : meth.sig.returnType = some t) (ht : t.isReference = true) (hv : v.isRef = true) {P : Option Value → Heap → Prop} (hd : decode c.code pc = .ok (.areturn, 1)) (hc : cells ≤ R.cells) (hl : slots ≤ R.slots) (hP : P (some v) h) : Run p e below (Qm Z EL s h0 ws R P) T (mkF m pc Ls [v]) :=
  w_ret w hEL hs hlk (v := some v) (fun q => by rw [hret] at q; cases q) hP hc hl fun X fs hr => X.areturnOut w.hx hv hret ht hd hr
theorem w_return (w : Wk p l e R s m args below meth c Z EL own h0 ws T h cells slots S) (hEL : EW Z a0 EL) (hs : s.heap = h0) (hlk : meth.locks = false) (hret : meth.sig.returnType = none) {P : Option Value → Heap → Prop} (hd : decode c.code pc = .ok (.return_, 1)) (hc : cells ≤ R.cells) (hl : slots ≤ R.slots) (hP : P none h) : Run p e below (Qm Z EL s h0 ws R P) T (mkF m pc Ls []) :=
  w_ret w hEL hs hlk (v := none) (fun _ => rfl) hP hc hl fun X fs hr => X.returnOut w.hx hret hd hr
/-- a contract pays its caller -/
theorem Met.back {y : MethodName} {bytes : ByteArray} {maxL : Nat} {ret : Option FieldType} {rm : Room} {as' : Array Value} {S' ws' : List Addr} {P : Option Value → Heap → Prop} {len W : Nat} (hM : Met l Z EL y bytes maxL ret rm as' h S' ws' P) (hZ : Z.Warmed39 vm0) (wc : (Jvm.Cond.code y bytes maxL ret).before a0 Z = true) (wz : (Jvm.Cond.initialized y.cls).before a0 Z = true)
    (hf : rm.frames + 1 ≤ R.frames) (hl : W + (maxL + 11) + rm.locals ≤ R.locals) (hEL : EW Z a0 EL) (H : CHv Z EL vm0 h) (hn : Ext Z.heap h) (hws : ∀ x ∈ ws', Z.heap.size ≤ x) (hS : ∀ x ∈ S', x < h.size ∧ Safe Z EL vm0 h x) :
    BackS l R p e below (s.setVm vm0) args y len W (fun A a => a = as' ∧ A.U.heap = h ∧ A.cells + rm.cells ≤ R.cells ∧ A.slots + rm.slots ≤ R.slots)
      (fun A _ v B => ∃ L, (Fr Z.heap.size L ∧ Keep h B.U.heap ws' ∧ P v B.U.heap) ∧ B.locs = A.locs ++ L ∧ B.cells = A.cells + rm.cells ∧ B.slots = A.slots + rm.slots ∧ CHr Z EL vm0 h B.U.vm B.U.heap) :=
  BackS.of_freeW (bytes := bytes) (maxL := maxL) (ret := ret) (E := fun _ first o t L k n => k = rm.cells ∧ n = rm.slots ∧ (∃ v, o = .returned v ∧ (Fr Z.heap.size L ∧ Keep h t.heap ws' ∧ P v t.heap)) ∧ CHr Z EL first.vm first.heap t.vm t.heap) (hM []) hf hl
    (fun m meth c A a Y hp => have hU : Z.Warmed39 A.U.vm := wtrans (s := s.setVm vm0) hZ Y.warmed
      ⟨by show (Jvm.Cond.and _ .tt).before a A.U = true; rw [Cond.before_and, mv hU wc]; rfl, mv hU wc, mv hU wz, hp.2.2.1, hp.2.2.2⟩)
    (fun m meth c A a g mk Y hp => ⟨hp.1, wtrans (s := s.setVm vm0) hZ Y.warmed, hp.2.1, (CHv.at Y hZ hEL H).1, hn, hws, fun x q => ⟨(hS x q).1, (CHv.at Y hZ hEL H).safe (hS x q).1 (hS x q).2⟩⟩) (fun _ _ _ _ _ _ _ _ _ => trivial)
    (fun _ _ _ _ ⟨v, L, h1, h2, h3, h4⟩ => ⟨L, _, _, h4, rfl, rfl, ⟨v, h1, h2⟩, h3⟩)
    (fun m meth c A a g mk v t L k n Y hp _ _ ⟨e1, e2, ⟨v', e3, e4⟩, e5⟩ => by
      cases e3; subst e1 e2
      refine ⟨L, e4, rfl, rfl, rfl, (CHv.at Y hZ hEL H).trans ?_⟩
      rw [← hp.2.1]; exact e5)
/-- what stands behind a call -/
theorem Rs.call (r : Rs s m Z EL own h0 ws vm0 k0 locs h S) {vm1 : Vm} {L : List Loc} {ws' : List Addr} (h2 : (s.setVm vm0).Since vm1 h'.size) (hC : CHr Z EL vm0 h vm1 h') (F : Fr Z.heap.size L) (K : Keep h h' ws') (q : ∀ x ∈ ws', x ∈ ws ∨ h0.size ≤ x) : Rs s m Z EL own h0 ws vm1 h'.size (locs ++ L) h' S := by
  obtain ⟨a1, a2, a3, a4, a5, a6, a7, a8, a9, a10⟩ := r
  exact ⟨a1.trans h2 (Nat.le_trans a2 K.1), Nat.le_refl _, State.Warmed39.trans (t := s.setVm vm0) a3 h2.1, (h2.1.alike.findClass _ _).trans a4, a5.trans hC, a6.app F, a7.trans K q, a8, a9, fun x z => ⟨Nat.lt_of_lt_of_le (a10 x z).1 K.1, hC.safe (a10 x z).1 (a10 x z).2⟩⟩
theorem w_static (w : Wk p l e R s m args below meth c Z EL own h0 ws T h cells slots S) (hEL : EW Z a0 EL) {index : Nat} {y : MethodName} {bytes : ByteArray} {maxL : Nat} {ret : Option FieldType} {rm : Room} {as' : Array Value} {S' ws' : List Addr} {P : Option Value → Heap → Prop} {W : Nat} {argsL : List Value}
    (w1 : (Jvm.Cond.methodLink own index y).before a0 Z = true) (w2 : (Jvm.Cond.static y).before a0 Z = true) (w3 : (Jvm.Cond.initialized y.cls).before a0 Z = true) (w4 : (Jvm.Cond.code y bytes maxL ret).before a0 Z = true) (hy : y.cls ≠ "java/lang/invoke/MethodHandle" ∧ y.cls ≠ "java/lang/invoke/VarHandle")
    (hM : Met l Z EL y bytes maxL ret rm as' h S' ws' P) (hS : ∀ x ∈ S', x ∈ S) (hws : ∀ x ∈ ws', x ∈ ws ∨ h0.size ≤ x) (hlen : ∀ sig, parseMethodDescriptor y.desc = some sig → argsL.length = sig.parameters.length) (ha : argsL.toArray = as') (hst : st = argsL.reverse ++ rest) (hd : decode c.code pc = .ok (.invokestatic index, 3)) (hsz : Ls.size = c.maxLocals)
    (hW : (rest.map fun v => v.category).sum ≤ W) (hf : rm.frames + 1 ≤ R.frames) (hl : W + (maxL + 11) + rm.locals ≤ R.locals) (hc : cells + rm.cells ≤ R.cells) (hsl : slots + rm.slots ≤ R.slots) (hp : pc + 3 = pc')
    (k : ∀ v T' h', Wk p l e R s m args below meth c Z EL own h0 ws T' h' (cells + rm.cells) (slots + rm.slots) S → Keep h h' ws' → P v h' → Run p e below Q T' (mkF m pc' Ls (v.toList ++ rest))) : Run p e below Q T (mkF m pc Ls st) := by
  obtain ⟨vm0, k0, locs, hx, X, eT, r⟩ := w
  have hn := r.old
  have hb := Met.back (R := R) (p := p) (e := e) (below := below) (s := s) (args := args) (len := 3) (W := W) hM r.hZ w4 w3 hf hl hEL r.ch hn (fun x q => (hws x q).elim (r.2.2.2.2.2.2.2.2.1 x) (Nat.le_trans r.2.2.2.2.2.2.2.1.1)) (fun x q => r.2.2.2.2.2.2.2.2.2 x (hS x q))
  obtain ⟨v, vm1, ⟨T', L', c', n'⟩, -, X', hSi, hg, ⟨L, ⟨q1, q2, q3⟩, y1, y2, y3, hC⟩, stp⟩ := callSS X hx r.ow (mvT r.hZ w1) (mvT r.hZ w2) (mvT r.hZ w3) (mvT r.hZ w4) hy hb (g := mkF m pc Ls st) rfl hsz (argsL := argsL) (rest := rest) hlen hst (by show 2 * 0 + _ ≤ _; omega) hd (fun _ _ => ⟨ha, eT, hc, hsl⟩)
  dsimp only [Pt.U, Pt.locs, Pt.cells, Pt.slots] at X' hSi hg q2 q3 y1 y2 y3 hC stp
  subst y1 y2 y3 hp
  exact Run.stp stp (k v T' T'.heap ⟨T'.vm, _, _, hx, X', rfl, r.call hSi hC q1 q2 hws⟩ q2 q3)
theorem w_special (w : Wk p l e R s m args below meth c Z EL own h0 ws T h cells slots S) (hEL : EW Z a0 EL) {index : Nat} {y : MethodName} {bytes : ByteArray} {maxL : Nat} {rm : Room} {as' : Array Value} {S' ws' : List Addr} {P : Option Value → Heap → Prop} {W : Nat} {a : Addr} {argsL : List Value}
    (hy1 : y.name = "<init>") (w1 : (Jvm.Cond.methodLink own index y).before a0 Z = true) (w2 : (Jvm.Cond.instanceMethod y).before a0 Z = true) (w3 : (Jvm.Cond.initialized y.cls).before a0 Z = true) (w4 : (Jvm.Cond.code y bytes maxL none).before a0 Z = true) (hy : y.cls ≠ "java/lang/invoke/MethodHandle" ∧ y.cls ≠ "java/lang/invoke/VarHandle")
    (hM : Met l Z EL y bytes maxL none rm as' h S' ws' P) (hS : ∀ x ∈ S', x ∈ S) (hws : ∀ x ∈ ws', x ∈ ws ∨ h0.size ≤ x) (hlen : ∀ sig, parseMethodDescriptor y.desc = some sig → argsL.length = sig.parameters.length) (ha : (Value.ref a :: argsL).toArray = as') (hst : st = argsL.reverse ++ .ref a :: rest) (hd : decode c.code pc = .ok (.invokespecial index, 3)) (hsz : Ls.size = c.maxLocals)
    (hW : (rest.map fun v => v.category).sum ≤ W) (hf : rm.frames + 1 ≤ R.frames) (hl : W + (maxL + 11) + rm.locals ≤ R.locals) (hc : cells + rm.cells ≤ R.cells) (hsl : slots + rm.slots ≤ R.slots) (hp : pc + 3 = pc')
    (k : ∀ v T' h', Wk p l e R s m args below meth c Z EL own h0 ws T' h' (cells + rm.cells) (slots + rm.slots) S → Keep h h' ws' → P v h' → Run p e below Q T' (mkF m pc' Ls (v.toList ++ rest))) : Run p e below Q T (mkF m pc Ls st) := by
  obtain ⟨vm0, k0, locs, hx, X, eT, r⟩ := w
  have hn := r.old
  have hb := Met.back (R := R) (p := p) (e := e) (below := below) (s := s) (args := args) (len := 3) (W := W) hM r.hZ w4 w3 hf hl hEL r.ch hn (fun x q => (hws x q).elim (r.2.2.2.2.2.2.2.2.1 x) (Nat.le_trans r.2.2.2.2.2.2.2.1.1)) (fun x q => r.2.2.2.2.2.2.2.2.2 x (hS x q))
  obtain ⟨v, vm1, ⟨T', L', c', n'⟩, -, X', hSi, hg, ⟨L, ⟨q1, q2, q3⟩, y1, y2, y3, hC⟩, stp⟩ := X.specialBackS hx hy1 r.ow (mvT r.hZ w1) (mvT r.hZ w2) (mvT r.hZ w4) hy hb (g := mkF m pc Ls st) rfl hsz (Steps.refl _) (a := a) (argsL := argsL) (rest := rest) hlen hst (by show 2 * 0 + _ ≤ _; omega) hd (fun _ _ => ⟨ha, eT, hc, hsl⟩)
  dsimp only [Pt.U, Pt.locs, Pt.cells, Pt.slots] at X' hSi hg q2 q3 y1 y2 y3 hC stp
  subst y1 y2 y3 hp
  exact Run.stp stp (k v T' T'.heap ⟨T'.vm, _, _, hx, X', rfl, r.call hSi hC q1 q2 hws⟩ q2 q3)
theorem w_virtual (w : Wk p l e R s m args below meth c Z EL own h0 ws T h cells slots S) (hEL : EW Z a0 EL) {index : Nat} {y y' : MethodName} {C : String} {bytes : ByteArray} {maxL : Nat} {ret : Option FieldType} {rm : Room} {as' : Array Value} {S' ws' : List Addr} {P : Option Value → Heap → Prop} {W : Nat} {a : Addr} {argsL : List Value}
    (w1 : (Jvm.Cond.methodLink own index y).before a0 Z = true) (w2 : (Jvm.Cond.declares y).before a0 Z = true) (w5 : (Jvm.Cond.selects y.cls y y).before a0 Z = true) (w6 : (Jvm.Cond.selects C y y').before a0 Z = true) (w7 : (Jvm.Cond.instanceMethod y').before a0 Z = true) (w3 : (Jvm.Cond.initialized y'.cls).before a0 Z = true) (w4 : (Jvm.Cond.code y' bytes maxL ret).before a0 Z = true) (hy : y.cls ≠ "java/lang/invoke/MethodHandle" ∧ y.cls ≠ "java/lang/invoke/VarHandle")
    (E : Exa Z h a C) (hM : Met l Z EL y' bytes maxL ret rm as' h S' ws' P) (hS : ∀ x ∈ S', x ∈ S) (hws : ∀ x ∈ ws', x ∈ ws ∨ h0.size ≤ x) (hlen : ∀ sig, parseMethodDescriptor y.desc = some sig → argsL.length = sig.parameters.length) (ha : (Value.ref a :: argsL).toArray = as') (hst : st = argsL.reverse ++ .ref a :: rest) (hd : decode c.code pc = .ok (.invokevirtual index, 3)) (hsz : Ls.size = c.maxLocals)
    (hW : (rest.map fun v => v.category).sum ≤ W) (hf : rm.frames + 1 ≤ R.frames) (hl : W + (maxL + 11) + rm.locals ≤ R.locals) (hc : cells + rm.cells ≤ R.cells) (hsl : slots + rm.slots ≤ R.slots) (hp : pc + 3 = pc')
    (k : ∀ v T' h', Wk p l e R s m args below meth c Z EL own h0 ws T' h' (cells + rm.cells) (slots + rm.slots) S → Keep h h' ws' → P v h' → Run p e below Q T' (mkF m pc' Ls (v.toList ++ rest))) : Run p e below Q T (mkF m pc Ls st) := by
  obtain ⟨vm0, k0, locs, hx, X, eT, r⟩ := w
  have hn := r.old
  have hb := Met.back (R := R) (p := p) (e := e) (below := below) (s := s) (args := args) (len := 3) (W := W) hM r.hZ w4 w3 hf hl hEL r.ch hn (fun x q => (hws x q).elim (r.2.2.2.2.2.2.2.2.1 x) (Nat.le_trans r.2.2.2.2.2.2.2.1.1)) (fun x q => r.2.2.2.2.2.2.2.2.2 x (hS x q))
  obtain ⟨cq, kq, qa, qb, qc⟩ := isOf r.hZ eT E
  obtain ⟨v, vm1, ⟨T', L', c', n'⟩, -, X', hSi, hg, ⟨L, ⟨q1, q2, q3⟩, y1, y2, y3, hC⟩, stp⟩ := X.virtualBackS hx r.ow (mvT r.hZ w1) (mvT r.hZ w2) (notFace_of_selects (args := #[]) (mvT r.hZ w5)) (mvT r.hZ w6) (mvT r.hZ w7) hy hb qa qc (g := mkF m pc Ls st) rfl hsz (Steps.refl _) (argsL := argsL) (rest := rest) hlen hst (by show 2 * 0 + _ ≤ _; omega) hd (fun _ _ => ⟨ha, eT, hc, hsl⟩)
  dsimp only [Pt.U, Pt.locs, Pt.cells, Pt.slots] at X' hSi hg q2 q3 y1 y2 y3 hC stp
  subst y1 y2 y3 hp
  exact Run.stp stp (k v T' T'.heap ⟨T'.vm, _, _, hx, X', rfl, r.call hSi hC q1 q2 hws⟩ q2 q3)
/-- a law of the pasted text (Back), of a virtual call that leaves the heap as it was -/
theorem w_virtB (w : Wk p l e R s m args below meth c Z EL own h0 ws T h cells slots S) {index : Nat} {y y' : MethodName} {C : String} {as' : Array Value} {Pv : Option Value → Prop} {W : Nat} {a : Addr} {argsL : List Value}
    (w1 : (Jvm.Cond.methodLink own index y).before a0 Z = true) (w2 : (Jvm.Cond.declares y).before a0 Z = true) (w5 : (Jvm.Cond.selects y.cls y y).before a0 Z = true) (w6 : (Jvm.Cond.selects C y y').before a0 Z = true) (w7 : (Jvm.Cond.instanceMethod y').before a0 Z = true) (hy : y.cls ≠ "java/lang/invoke/MethodHandle" ∧ y.cls ≠ "java/lang/invoke/VarHandle")
    (E : Exa Z h a C) (hK : ∀ vm0, Z.Warmed39 (s.setVm vm0).vm → Back l R p e below (s.setVm vm0) args y' 3 W (fun P b => b = as' ∧ P.U.heap = h ∧ P.cells + 0 ≤ R.cells ∧ P.slots + 0 ≤ R.slots) (fun P _ v B => ∃ L, (Pv v ∧ L = [] ∧ B.U.heap = h) ∧ B.locs = P.locs ++ L ∧ B.cells = P.cells + 0 ∧ B.slots = P.slots + 0))
    (hlen : ∀ sig, parseMethodDescriptor y.desc = some sig → argsL.length = sig.parameters.length) (ha : (Value.ref a :: argsL).toArray = as') (hst : st = argsL.reverse ++ .ref a :: rest) (hd : decode c.code pc = .ok (.invokevirtual index, 3)) (hsz : Ls.size = c.maxLocals)
    (hW : (rest.map fun v => v.category).sum ≤ W) (hc : cells ≤ R.cells) (hsl : slots ≤ R.slots) (hp : pc + 3 = pc')
    (k : ∀ v T', Wk p l e R s m args below meth c Z EL own h0 ws T' h cells slots S → Pv v → Run p e below Q T' (mkF m pc' Ls (v.toList ++ rest))) : Run p e below Q T (mkF m pc Ls st) := by
  obtain ⟨vm0, k0, locs, hx, X, eT, r⟩ := w
  obtain ⟨cq, kq, qa, qb, qc⟩ := isOf r.hZ eT E
  obtain ⟨v, vm1, ⟨T', L', c', n'⟩, -, X', ⟨L, ⟨q1, q2, q3⟩, y1, y2, y3⟩, stp⟩ := X.virtualBack hx r.ow (mvT r.hZ w1) (mvT r.hZ w2) (notFace_of_selects (args := #[]) (mvT r.hZ w5)) (mvT r.hZ w6) (mvT r.hZ w7) hy (hK vm0 r.hZ) qa qc (g := mkF m pc Ls st) rfl hsz (Steps.refl _) (argsL := argsL) (rest := rest) hlen hst (by show 2 * 0 + _ ≤ _; omega) hd (fun _ _ => ⟨ha, eT, hc, hsl⟩)
  dsimp only [Pt.U, Pt.locs, Pt.cells, Pt.slots] at X' q3 y1 y2 y3 stp
  subst q2 y1 y2 y3 hp
  rw [List.append_nil] at X'
  exact Run.stp stp (k v T' ⟨vm0, k0, locs, hx, X', q3, r⟩ q1)
end Kit
end Ow
end Jvm.Pilot.@@N@@


namespace Jvm.Pilot.@@N@@
open Jvm Jvm.ClassFile Sem Op Lib Jvm.Free Jvm.Stand Jvm.LawKit Jvm.RoadKit Bundle Jvm.Pilot.@@N@@.Jvm.D
namespace Ow
open StrChars StrChars.Road
abbrev wordsS : List Jvm.Cond := .stringLink ST 7 "" :: Bundle.stringAtoms
theorem e4_8 : decode New4.yB 8 = .ok (.aload_n 0, 1) := by decide +kernel
theorem e4_9 : decode New4.yB 9 = .ok (.ldc 7, 2) := by decide +kernel
theorem e4_11 : decode New4.yB 11 = .ok (.getfield 9, 3) := by decide +kernel
theorem e4_14 : decode New4.yB 14 = .ok (.putfield 9, 3) := by decide +kernel
theorem e4_17 : decode New4.yB 17 = .ok (.aload_n 0, 1) := by decide +kernel
theorem e4_18 : decode New4.yB 18 = .ok (.ldc 7, 2) := by decide +kernel
theorem e4_20 : decode New4.yB 20 = .ok (.getfield 15, 3) := by decide +kernel
theorem e4_23 : decode New4.yB 23 = .ok (.putfield 15, 3) := by decide +kernel
theorem e4_26 : decode New4.yB 26 = .ok (.return_, 1) := by decide +kernel
theorem pnS : plainName "java/lang/String" = true := by first | (simp [plainName, overriddenIn]; done) | decide +kernel
theorem ef4 (m : MethodId) (x b : Addr) : entryFrame m #[.ref x, .ref b, .int 0, .int 0, .null] 6 = mkF m 0 #[.val (.ref x), .val (.ref b), .val (.int 0), .val (.int 0), .val .null, .unset] [] := by first | (simp [entryFrame, mkF, argsToLocals, Value.category]; done) | rfl
theorem ef1 (m : MethodId) (x b : Addr) : entryFrame m #[.ref x, .ref b] 2 = mkF m 0 #[.val (.ref x), .val (.ref b)] [] := by first | (simp [entryFrame, mkF, argsToLocals, Value.category]; done) | rfl
section StrK
variable {p : Program} {l : Launch} {e : Env} {R : Room} {s : State} {m : MethodId} {args : Array Value} {below : List Frame} {meth : Method} {c : Code} {Z : State} {a0 : Array Value} {EL : List (String × Nat)} {own : String} {h0 : Heap} {ws : List Addr} {T T' : State} {h h' hB : Heap} {cells slots : Nat} {S : List Addr} {Q : Outcome → State → Prop} {pc pc' pc1 pc2 : Nat} {Ls l' : Array Slot} {rest st : List Value} {x y : Addr} {cs ds : List Int32}
/-- the String at x spells cs -/
def Str (Z : State) (h : Heap) (x : Addr) (cs : List Int32) : Prop :=
  Exa Z h x ST ∧ ∃ (t : Addr) (kb : ClassId) (cd N2 : Int32) (vs : List Value), Fld Z h x ST "value" "[B" (.ref t) ∧ Fld Z h x ST "coder" "B" (.int cd) ∧ Arv Z h t kb .byte N2 vs (.int 0) ∧ CodA cs cd N2 vs ∧ (∀ c ∈ cs, ¬ c < 0 ∧ ¬ (65535 : Int32) < c) ∧ cs.length ≤ 4000
theorem Str.ext (F : Str Z h x cs) (E : Ext h h') : Str Z h' x cs := by
  obtain ⟨a, t, kb, cd, N2, vs, q1, q2, q3, q4⟩ := F
  exact ⟨a.ext E, t, kb, cd, N2, vs, q1.ext E, q2.ext E, q3.ext E, q4⟩
theorem Str.low (A : Exa Z h x ST) {t : Addr} {kb : ClassId} {N : Int32} {n : Nat} (V : Fld Z h x ST "value" "[B" (.ref t)) (C : Fld Z h x ST "coder" "B" (.int 0)) (hn : cs.length = n) (hN : N = Int32.ofNat n) (K : Arv Z h t kb .byte N ((cs.map (fun c => c.toInt8.toInt32)).map Value.int) (.int 0)) (hp : ∀ c ∈ cs, ¬ c < 0 ∧ ¬ (255 : Int32) < c) (hl : n ≤ 4000) : Str Z h x cs := by
  subst hN hn
  refine ⟨A, t, kb, 0, _, _, V, C, K, codOf rfl fun c q => (hp c q).2, fun c q => ⟨(hp c q).1, fun z => (hp c q).2 ?_⟩, hl⟩
  have := Int32.lt_iff_toInt_lt.mp z
  rw [Int32.lt_iff_toInt_lt]
  have e1 : (65535 : Int32).toInt = 65535 := by decide
  have e2 : (255 : Int32).toInt = 255 := by decide
  omega
/-- new String(char[]): the constructor's call, of one to 4,000 signs below 256 -/
theorem w_strInitP (w : Wk p l e R s m args below meth c Z EL own h0 ws T h cells slots S) (hw1 : ∀ d ∈ StrChars.Road.words, d.before a0 Z = true) (wi : (Jvm.Cond.instantiable ST 4).before a0 Z = true) {index : Nat} (wl : (Jvm.Cond.methodLink own index New1.yN).before a0 Z = true) (wm : (Jvm.Cond.instanceMethod New1.yN).before a0 Z = true)
    {b : Addr} {v0 c0 : Value} {ka : ClassId} {N zc : Int32} {n W : Nat} {dv : Value} (E : Exa Z h x ST) (V : Fld Z h x ST "value" "[B" v0) (C : Fld Z h x ST "coder" "B" c0) (K : Arv Z h b ka .char N (cs.map Value.int) dv) (SC : Sta Z Z.heap ST "COMPACT_STRINGS" "Z" (.int zc)) (hz : ¬ zc = 0)
    (hn : cs.length = n) (hN : N = Int32.ofNat n) (h0n : 0 < n) (hl2 : n ≤ 4000) (hcs : ∀ c ∈ cs, ¬ c < 0 ∧ ¬ (255 : Int32) < c) (hxS : x ∈ S) (hx0 : x ∈ ws ∨ h0.size ≤ x) (hZx : Z.heap.size ≤ x) (hd : decode c.code pc = .ok (.invokespecial index, 3)) (hsz : Ls.size = c.maxLocals) (hW : (rest.map fun v => v.category).sum ≤ W) (hf : 4 ≤ R.frames) (hl : W + 65 ≤ R.locals) (hc : cells + 1 ≤ R.cells) (hsl : slots + n ≤ R.slots) (hp : pc + 3 = pc')
    (k : ∀ T' h', Wk p l e R s m args below meth c Z EL own h0 ws T' h' (cells + 1) (slots + n) S → Keep h h' [x] → Str Z h' x cs → Run p e below Q T' (mkF m pc' Ls rest)) : Run p e below Q T (mkF m pc Ls (.ref b :: .ref x :: rest)) := by
  obtain ⟨vm0, k0, locs, hx, X, eT, r⟩ := w
  obtain ⟨v, vm1, ⟨T', L', c', n'⟩, -, X', ⟨L, hQ, y1, y2, y3⟩, stp⟩ := X.specialBack hx (y := New1.yN) rfl r.ow (mvT r.hZ wl) (mvT r.hZ wm) (mvT r.hZ (hw1 _ (List.mem_of_getElem? (i := 0) rfl))) (by decide) (StrChars.Road.backV (W := W) r.hZ hw1 (kI := 4) wi (cs := cs) (bs := cs.map fun c => c.toInt8.toInt32) (n := n) (n0 := Z.heap.size) hZx r.old.1 E V C K (SC.ext r.old) hz hn hN h0n hl2 hcs rfl hf hl) (g := mkF m pc Ls (.ref b :: .ref x :: rest)) rfl hsz (Steps.refl _) (a := x) (argsL := [.ref b]) (rest := rest) (lenOf (by decide +kernel : parseMethodDescriptor "([C)V" = some ⟨[.array .char], none⟩) rfl) rfl (by show 2 * 0 + _ ≤ _; omega) hd (fun _ _ => ⟨rfl, eT, hc, hsl⟩)
  dsimp only [Pt.U, Pt.locs, Pt.cells, Pt.slots] at X' hQ y1 y2 y3 stp
  subst y1 y2 y3 hp
  obtain ⟨rfl, N', K', A, C', t, kb, -, -, -, V', B⟩ := hQ
  have Sx := (r.2.2.2.2.2.2.2.2.2 x hxS).2
  have hCr : CHr Z EL vm0 h vm0 T'.heap := CHr.keep K' (fun y q => by rw [List.mem_singleton.mp q]; exact Sx) r.ch
  obtain ⟨a1, a2, a3, a4, a5, a6, a7, a8, a9, a10⟩ := r
  have r' : Rs s m Z EL own h0 ws vm0 k0 (locs ++ L) T'.heap S := ⟨a1, Nat.le_trans a2 K'.1, a3, a4, a5.trans hCr, a6.app N', a7.trans K' (fun y q => by rw [List.mem_singleton.mp q]; exact hx0), a8, a9, fun y q => ⟨Nat.lt_of_lt_of_le (a10 y q).1 K'.1, hCr.safe (a10 y q).1 (a10 y q).2⟩⟩
  exact Run.stp stp (k T' T'.heap ⟨vm0, k0, _, hx, X', rfl, r'⟩ K' (Str.low A V' C' hn hN B hcs hl2))
/-- String.<init>(char[], int, int, Void) of an empty array -/
theorem init4_0 (hEL : EW Z a0 EL) (hmem : ("java/lang/String", 7) ∈ EL) (hw1 : ∀ d ∈ StrChars.Road.words, d.before a0 Z = true) (hw2 : ∀ d ∈ wordsS, d.before a0 Z = true) {x b : Addr} {v0 c0 : Value} (E : Exa Z h x ST) (V : Fld Z h x ST "value" "[B" v0) (C : Fld Z h x ST "coder" "B" c0) :
    Met l Z EL New4.yN New4.yB 6 none { frames := 1, cells := 4, slots := 8, locals := 12 } #[.ref x, .ref b, .int 0, .int 0, .null] h [x] [x] (fun v h' => v = none ∧ Exa Z h' x ST ∧ Fld Z h' x ST "coder" "B" (.int 0) ∧ ∃ t kb, Fld Z h' x ST "value" "[B" (.ref t) ∧ Arv Z h' t kb .byte 0 [] (.int 0)) := by
  have wS : ∀ d ∈ Bundle.stringAtoms, d.before a0 Z = true := fun d q => hw2 d (List.mem_cons_of_mem _ q)
  have wL : (Jvm.Cond.stringLink ST 7 "").before a0 Z = true := hw2 _ (List.mem_cons_self ..)
  have wi : (Jvm.Cond.instantiable ST 4).before a0 Z = true := wS _ (List.mem_of_getElem? (i := 1) rfl)
  have lv : (Jvm.Cond.laysFinal ST ST "value" "[B").before a0 Z = true := hw1 _ (List.mem_of_getElem? (i := 6) rfl)
  have lc : (Jvm.Cond.laysFinal ST ST "coder" "B").before a0 Z = true := hw1 _ (List.mem_of_getElem? (i := 8) rfl)
  have fv : (Jvm.Cond.fieldLink ST 9 ST "value" "[B").before a0 Z = true := hw1 _ (List.mem_of_getElem? (i := 7) rfl)
  have fc : (Jvm.Cond.fieldLink ST 15 ST "coder" "B").before a0 Z = true := hw1 _ (List.mem_of_getElem? (i := 9) rfl)
  refine Met.of (plainFor_of_name pnS) ?_
  intro p e s m below meth c T hnm hret hlk hby hml hs w
  refine Run.cast (ef4 m x b) ?_
  refine s_aload_n w (hb hby New4.d0) rfl rfl (pc' := 1) rfl ?_
  refine w_objInit w (hw1 _ (List.mem_of_getElem? (i := 10) rfl)) (hw1 _ (List.mem_of_getElem? (i := 11) rfl)) (hw1 _ (List.mem_of_getElem? (i := 12) rfl)) (hb hby New4.d1) (by rw [hml]; rfl) (by decide) (W := 0) (by decide) (by decide) (pc' := 4) rfl fun T w => ?_
  refine s_iload_n w (hb hby New4.d4) rfl (pc' := 5) rfl ?_
  refine s_if_ne w (hb hby New4.d5) (by decide) (pc1 := 8) rfl (pc2 := 27) rfl (fun _ => ?_) (fun q => absurd rfl q)
  refine s_aload_n w (hb hby e4_8) rfl rfl (pc' := 9) rfl ?_
  refine w_ldcS w hEL wL wS hmem (vs := []) (z := 0) (n := 0) ⟨by decide, rfl⟩ (by decide) rfl (by decide) (by decide) (hb hby e4_9) (pc' := 11) rfl (by decide) (by decide) fun T h1 q t kb w E1 A1 C1 V1 K1 N1 => ?_
  refine w_getF w fv Via.refl V1 (hb hby e4_11) (pc' := 14) rfl fun T w => ?_
  refine w_putF w fv Via.refl (V.ext E1) (E.ext E1) (Or.inr ⟨lv, rfl, hnm⟩) wi (ty := .array .byte) (by decide) rfl rfl (hb hby e4_14) (Or.inl (List.mem_singleton.mpr rfl)) (Or.inr (List.mem_singleton.mpr rfl)) (pc' := 17) rfl fun T h2 w W2 F2 X2 => ?_
  refine s_aload_n w (hb hby e4_17) rfl rfl (pc' := 18) rfl ?_
  refine w_ldcS w hEL wL wS hmem (vs := []) (z := 0) (n := 0) ⟨by decide, rfl⟩ (by decide) rfl (by decide) (by decide) (hb hby e4_18) (pc' := 20) rfl (by decide) (by decide) fun T h3 q' t' kb' w E3 A3 C3 V3 K3 N3 => ?_
  refine w_getF w fc Via.refl C3 (hb hby e4_20) (pc' := 23) rfl fun T w => ?_
  have ne : t ≠ x := fun z => (N1 x (List.mem_singleton.mpr rfl)).2 z.symm
  have sn : Jvm.RoadKit.slotOf Z ST "value" "[B" ≠ Jvm.RoadKit.slotOf Z ST "coder" "B" := slot_ne (Or.inr lv) (Or.inr lc) (by decide) (t := .array .byte) (t' := .byte) (by decide) (by decide)
  have C2 := (C.ext E1).other W2 (Or.inr sn.symm)
  refine w_putF w fc Via.refl (C2.ext E3) (X2.ext E3) (Or.inr ⟨lc, rfl, hnm⟩) wi (ty := .byte) (by decide) rfl rfl (hb hby e4_23) (Or.inl (List.mem_singleton.mpr rfl)) (Or.inr (List.mem_singleton.mpr rfl)) (pc' := 26) rfl fun T h4 w W4 F4 X4 => ?_
  refine w_return w hEL hs hlk hret (hb hby e4_26) (by decide) (by decide) ⟨rfl, X4, F4, t, kb, (F2.ext E3).other W4 (Or.inr sn), ((K1.other W2 ne).ext E3).other W4 ne⟩
theorem init1_0 (hEL : EW Z a0 EL) (hmem : ("java/lang/String", 7) ∈ EL) (hw1 : ∀ d ∈ StrChars.Road.words, d.before a0 Z = true) (hw2 : ∀ d ∈ wordsS, d.before a0 Z = true) {x b : Addr} {v0 c0 : Value} (E : Exa Z h x ST) (V : Fld Z h x ST "value" "[B" v0) (C : Fld Z h x ST "coder" "B" c0) {ka : ClassId} {vs : List Value} {dv : Value} (K : Arv Z h b ka .char 0 vs dv) :
    Met l Z EL New1.yN New1.yB 2 none { frames := 2, cells := 4, slots := 8, locals := 29 } #[.ref x, .ref b] h [x] [x] (fun v h' => v = none ∧ Exa Z h' x ST ∧ Fld Z h' x ST "coder" "B" (.int 0) ∧ ∃ t kb, Fld Z h' x ST "value" "[B" (.ref t) ∧ Arv Z h' t kb .byte 0 [] (.int 0)) := by
  refine Met.of (plainFor_of_name pnS) ?_
  intro p e s m below meth c T hnm hret hlk hby hml hs w
  refine Run.cast (ef1 m x b) ?_
  refine s_aload_n w (hb hby New1.d0) rfl rfl (pc' := 1) rfl ?_
  refine s_aload_n w (hb hby New1.d1) rfl rfl (pc' := 2) rfl ?_
  refine s_iconst w (hb hby New1.d2) (v := 0) rfl (pc' := 3) rfl ?_
  refine s_aload_n w (hb hby New1.d3) rfl rfl (pc' := 4) rfl ?_
  refine w_len w K (hb hby New1.d4) (pc' := 5) rfl ?_
  refine s_anull w (hb hby New1.d5) (pc' := 6) rfl ?_
  refine w_special w hEL (y := New4.yN) rfl (hw1 _ (List.mem_of_getElem? (i := 2) rfl)) (hw1 _ (List.mem_of_getElem? (i := 3) rfl)) (hw1 _ (List.mem_of_getElem? (i := 1) rfl)) (hw1 _ (List.mem_of_getElem? (i := 4) rfl)) (by decide) (init4_0 (b := b) hEL hmem hw1 hw2 E V C) (fun _ q => q) (fun _ q => Or.inl q) (argsL := [.ref b, .int 0, .int 0, .null]) (rest := []) (lenOf (by decide +kernel : parseMethodDescriptor "([CIILjava/lang/Void;)V" = some ⟨[.array .char, .int, .int, .object "java/lang/Void"], none⟩) rfl) rfl rfl (hb hby New1.d6) (by rw [hml]; rfl) (W := 0) (by decide) (by decide) (by decide) (by decide) (by decide) (pc' := 9) rfl fun v T h' w K' P' => ?_
  obtain ⟨rfl, q⟩ := P'
  exact w_return w hEL hs hlk hret (hb hby New1.d9) (by decide) (by decide) ⟨rfl, q⟩
/-- new String(char[]): the constructor's call, of no sign or of up to 4,000 signs below 256 -/
theorem w_strInit (w : Wk p l e R s m args below meth c Z EL own h0 ws T h cells slots S) (hEL : EW Z a0 EL) (hmem : ("java/lang/String", 7) ∈ EL) (hw1 : ∀ d ∈ StrChars.Road.words, d.before a0 Z = true) (hw2 : ∀ d ∈ wordsS, d.before a0 Z = true) {index : Nat} (wl : (Jvm.Cond.methodLink own index New1.yN).before a0 Z = true) (wm : (Jvm.Cond.instanceMethod New1.yN).before a0 Z = true)
    {b : Addr} {v0 c0 : Value} {ka : ClassId} {N zc : Int32} {n W : Nat} {dv : Value} (E : Exa Z h x ST) (V : Fld Z h x ST "value" "[B" v0) (C : Fld Z h x ST "coder" "B" c0) (K : Arv Z h b ka .char N (cs.map Value.int) dv) (SC : Sta Z Z.heap ST "COMPACT_STRINGS" "Z" (.int zc)) (hz : ¬ zc = 0)
    (hn : cs.length = n) (hN : N = Int32.ofNat n) (hl2 : n ≤ 4000) (hcs : ∀ c ∈ cs, ¬ c < 0 ∧ ¬ (255 : Int32) < c) (hxS : x ∈ S) (hx0 : x ∈ ws ∨ h0.size ≤ x) (hZx : Z.heap.size ≤ x) (hd : decode c.code pc = .ok (.invokespecial index, 3)) (hsz : Ls.size = c.maxLocals) (hW : (rest.map fun v => v.category).sum ≤ W) (hf : 4 ≤ R.frames) (hl : W + 65 ≤ R.locals) (hc : cells + 4 ≤ R.cells) (hsl : slots + (n + 8) ≤ R.slots) (hp : pc + 3 = pc')
    (k : ∀ T' h', Wk p l e R s m args below meth c Z EL own h0 ws T' h' (cells + 4) (slots + (n + 8)) S → Keep h h' [x] → Str Z h' x cs → Run p e below Q T' (mkF m pc' Ls rest)) : Run p e below Q T (mkF m pc Ls (.ref b :: .ref x :: rest)) := by
  by_cases h0n : n = 0
  · subst h0n
    obtain rfl : cs = [] := List.eq_nil_of_length_eq_zero hn
    subst hN
    refine w_special w hEL (y := New1.yN) rfl wl wm (hw1 _ (List.mem_of_getElem? (i := 1) rfl)) (hw1 _ (List.mem_of_getElem? (i := 0) rfl)) (by decide) (init1_0 hEL hmem hw1 hw2 E V C K) (fun y q => by rw [List.mem_singleton.mp q]; exact hxS) (fun y q => by rw [List.mem_singleton.mp q]; exact hx0) (argsL := [.ref b]) (rest := rest) (lenOf (by decide +kernel : parseMethodDescriptor "([C)V" = some ⟨[.array .char], none⟩) rfl) rfl rfl hd hsz (W := W) hW (by show 2 + 1 ≤ _; omega) (by show W + (2 + 11) + 29 ≤ _; omega) hc (by show slots + 8 ≤ _; omega) hp fun v T' h' w' K' P' => ?_
    obtain ⟨rfl, A, C', t, kb, V', B⟩ := P'
    exact k T' h' (w'.mono (Nat.le_refl _) (by show slots + 8 ≤ slots + (0 + 8); omega)) K' (Str.low A V' C' rfl rfl B hcs (by decide))
  · exact w_strInitP w hw1 (hw2 _ (List.mem_of_getElem? (i := 2) rfl)) wl wm E V C K SC hz hn hN (Nat.pos_of_ne_zero h0n) hl2 hcs hxS hx0 hZx hd hsz hW hf hl (by omega) (by omega) hp fun T' h' w' => k T' h' (w'.mono (by omega) (by omega))
/-- String.equals of two Strings -/
theorem w_strEq (w : Wk p l e R s m args below meth c Z EL own h0 ws T h cells slots S) (hwE : ∀ d ∈ StrChars.Road.wordsEq, d.before a0 Z = true) (wi : (Jvm.Cond.instantiable ST 4).before a0 Z = true) {index : Nat} (w1 : (Jvm.Cond.methodLink own index SEq.yN).before a0 Z = true) (w2 : (Jvm.Cond.declares SEq.yN).before a0 Z = true) (w3 : (Jvm.Cond.selects ST SEq.yN SEq.yN).before a0 Z = true) (w4 : (Jvm.Cond.instanceMethod SEq.yN).before a0 Z = true)
    {zc : Int32} {W : Nat} (X : Str Z h x cs) (Y : Str Z h y ds) (SC : Sta Z Z.heap ST "COMPACT_STRINGS" "Z" (.int zc)) (hz : ¬ zc = 0) (hd : decode c.code pc = .ok (.invokevirtual index, 3)) (hsz : Ls.size = c.maxLocals) (hW : (rest.map fun v => v.category).sum ≤ W) (hf : 2 ≤ R.frames) (hl : W + 28 ≤ R.locals) (hc : cells ≤ R.cells) (hsl : slots ≤ R.slots) (hp : pc + 3 = pc')
    (k : ∀ T' (b : Int32), Wk p l e R s m args below meth c Z EL own h0 ws T' h cells slots S → ((b = 1 ∧ cs = ds) ∨ (b = 0 ∧ ¬ cs = ds)) → Run p e below Q T' (mkF m pc' Ls (.int b :: rest))) : Run p e below Q T (mkF m pc Ls (.ref y :: .ref x :: rest)) := by
  obtain ⟨A, t, kb, cd, N2, vs, q1, q2, q3, q4, q5, q6⟩ := X
  obtain ⟨A', t', kb', cd', N2', vs', q1', q2', q3', q4', q5', q6'⟩ := Y
  have SC' := SC.ext w.old
  refine w_virtB w (y := SEq.yN) (y' := SEq.yN) (C := ST) w1 w2 w3 w3 w4 (by decide) A (Pv := fun v => (v = some (.int 1) ∧ cs = ds) ∨ (v = some (.int 0) ∧ ¬ cs = ds)) (as' := #[.ref x, .ref y]) (W := W) (fun vm0 hZ => StrChars.Road.eqW hZ hwE wi A q1 q2 q3 q4 q5 q6 A' q1' q2' q3' q4' q5' q6' SC' hz hf hl) (argsL := [.ref y]) (rest := rest) (lenOf (by decide +kernel : parseMethodDescriptor "(Ljava/lang/Object;)Z" = some ⟨[.object "java/lang/Object"], some .boolean⟩) rfl) rfl rfl hd hsz hW hc hsl hp fun v T' w' P' => ?_
  rcases P' with ⟨rfl, q⟩ | ⟨rfl, q⟩
  · exact k T' 1 w' (Or.inl ⟨rfl, q⟩)
  · exact k T' 0 w' (Or.inr ⟨rfl, q⟩)
end StrK
end Ow
end Jvm.Pilot.@@N@@

namespace Jvm.Pilot.@@N@@
open Jvm Jvm.ClassFile Sem Op Lib Jvm.Free Jvm.Stand Jvm.LawKit Jvm.RoadKit Bundle Jvm.Pilot.@@N@@.Jvm.D
namespace Ow
open StrChars StrChars.Road

/-! plain facts on ints -/
def Lat (c : Int32) : Prop := ¬ c < 0 ∧ ¬ (255 : Int32) < c
theorem i32_0 : (0 : Int32).toInt = 0 := by decide
theorem i32_255 : (255 : Int32).toInt = 255 := by decide
theorem lat_iff {c : Int32} : Lat c ↔ 0 ≤ c.toInt ∧ c.toInt ≤ 255 := by
  unfold Lat
  rw [Int32.lt_iff_toInt_lt, Int32.lt_iff_toInt_lt, i32_0, i32_255]
  omega
theorem nar_char (x : Int32) : nar .char x = x.toUInt32.toUInt16.toUInt32.toInt32 := rfl
theorem nar_id {c : Int32} (h : 0 ≤ c.toInt ∧ c.toInt < 65536) : nar .char c = c := by
  have q := c_i2c c
  rw [← nar_char] at q
  rw [← Int32.toInt_inj]
  omega
theorem Lat.nar {c : Int32} (h : Lat c) : nar .char c = c := nar_id (by have := lat_iff.mp h; omega)
theorem lat_mask (x : Int32) : Lat (Jvm.RoadKit.nar .char (x &&& 255)) := by
  have q := c_i2c (x &&& 255)
  rw [← nar_char] at q
  have m := c_mask x 255 8 (by decide) (by decide)
  rw [lat_iff]
  omega
theorem mask_le (x : Int32) (m : Int32) (k : Nat) (hk : k ≤ 31) (hm : m.toBitVec.toNat = 2 ^ k - 1) : 0 ≤ (x &&& m).toInt ∧ (x &&& m).toInt < (2 ^ k : Nat) := by
  rw [c_mask x m k hk hm]
  have : (0 : Int) < (2 ^ k : Nat) := by exact_mod_cast Nat.pos_of_ne_zero (by simp)
  exact ⟨Int.emod_nonneg _ (by omega), Int.emod_lt_of_pos _ this⟩
theorem toInt_eq {x y : Int32} {n : Int} (h : x.toInt = n) (hy : y.toInt = n) : x = y := Int32.toInt_inj.mp (h.trans hy.symm)
theorem and3 (x : Int32) : x &&& 3 = 0 ∨ x &&& 3 = 1 ∨ x &&& 3 = 2 ∨ x &&& 3 = 3 := by
  have m := mask_le x 3 2 (by decide) (by decide)
  have h : (x &&& 3).toInt = 0 ∨ (x &&& 3).toInt = 1 ∨ (x &&& 3).toInt = 2 ∨ (x &&& 3).toInt = 3 := by omega
  rcases h with h | h | h | h
  · exact Or.inl (toInt_eq h (by decide))
  · exact Or.inr (Or.inl (toInt_eq h (by decide)))
  · exact Or.inr (Or.inr (Or.inl (toInt_eq h (by decide))))
  · exact Or.inr (Or.inr (Or.inr (toInt_eq h (by decide))))
theorem rem3 (x : Int32) : (x &&& 3) % 3 = 0 ∨ (x &&& 3) % 3 = 1 ∨ (x &&& 3) % 3 = 2 := by
  rcases and3 x with h | h | h | h <;> rw [h] <;> decide
theorem ne_int {args : Array Value} {s : State} {t : Term} {n x : Int32} (ht : t.eval args s none [] s = some (.int x)) (h : (Jvm.Cond.not (.eq t (.int n))).before args s = true) : ¬ x = n := by
  intro q; subst q
  have h1 := not_v (Cond.before_iff.mp h)
  have hi : (Term.int x).eval args s none [] s = some (.int x) := rfl
  simp only [Jvm.Cond.value, ht, hi] at h1
  simp at h1
theorem eq_int {args : Array Value} {s : State} {t : Term} {n : Int32} (h : (Jvm.Cond.eq t (.int n)).value args s none s [] = some true) : t.eval args s none [] s = some (.int n) := by
  cases ht : t.eval args s none [] s with
  | none => simp [Jvm.Cond.value, ht] at h
  | some v => cases v <;> simp [Jvm.Cond.value, ht, Term.eval] at h ⊢; exact h
theorem flag {e : Int32} {A : Prop} (h : (e = 1 ∧ A) ∨ (e = 0 ∧ ¬ A)) : ¬ e = 0 ↔ A := by
  rcases h with ⟨rfl, q⟩ | ⟨rfl, q⟩
  · exact ⟨fun _ => q, fun _ => by decide⟩
  · exact ⟨fun z => absurd rfl z, fun z => absurd z q⟩
theorem val {e f : Int32} {A B : Prop} [Decidable B] (h : (e = 1 ∧ A) ∨ (e = 0 ∧ ¬ A)) (hf : (if B then (1 : Int32) else 0) = f) (hab : B ↔ A) : f = e := by
  rw [← hf]
  rcases h with ⟨rfl, q⟩ | ⟨rfl, q⟩
  · exact if_pos (hab.mpr q)
  · exact if_neg fun z => q (hab.mp z)

theorem sub1 : ∀ d ∈ StrChars.Road.words, d ∈ tables_1 := by decide +kernel
theorem subA : ∀ d ∈ Bundle.stringAtoms, d ∈ tables_1 := by decide +kernel
theorem sub2 : ∀ d ∈ wordsS, d ∈ tables_1 := by decide +kernel
theorem hmem : ("java/lang/String", 7) ∈ consts_1 := by decide
theorem subE : ∀ d ∈ StrChars.Road.wordsEq, d ∈ tables_1 := by decide +kernel
def Gl (Z : State) (a0 : Array Value) (zc : Int32)  : Prop :=
  (∀ d ∈ tables_1, d.before a0 Z = true) ∧ EW Z a0 consts_1 ∧ Sta Z Z.heap ST "COMPACT_STRINGS" "Z" (.int zc) ∧ ¬ zc = 0
abbrev TY : String := "com/example/benchwire/benchwire/protocol/hl7/Hl7Message$Type"
abbrev SD : String := "Ljava/lang/String;"
def chJ (x : Int64) (k : Int32) : Int32 := nar .char (ushJ x k &&& 255).toInt32
def strJ (x : Int64) : List Int32 := if (x &&& 3).toInt32 = 0 then [] else if (x &&& 3).toInt32 = 1 then [chJ x 8] else if (x &&& 3).toInt32 = 2 then [chJ x 8, chJ x 16] else [chJ x 8, chJ x 16, chJ x 24]
theorem ushJ_int (x : Int64) (q : Int32) (k : Nat) (hk : q.toBitVec.toNat % 64 = k) (h0 : 0 < k) : (ushJ x q).toInt = (x.toInt % 18446744073709551616) / (2 ^ k : Nat) := c_lushr x q k hk h0
theorem p8 : ((2 ^ 8 : Nat) : Int) = 256 := rfl
theorem p16 : ((2 ^ 16 : Nat) : Int) = 65536 := rfl
theorem p24 : ((2 ^ 24 : Nat) : Int) = 16777216 := rfl
theorem p0 : ((2 ^ 0 : Nat) : Int) = 1 := rfl
theorem i64_32 {x : Int64} (h : 0 ≤ x.toInt ∧ x.toInt < 2147483648) : x.toInt32.toInt = x.toInt := by
  have q := c_l2i x
  have r := rng32 x.toInt32
  omega
theorem and255 (x : Int64) : (x &&& 255).toInt = x.toInt % 256 := c_maskL x 255 8 (by decide) (by decide)
theorem chJ_int (x : Int64) (q : Int32) (k : Nat) (hk : q.toBitVec.toNat % 64 = k) (h0 : 0 < k) : (chJ x q).toInt = ((x.toInt % 18446744073709551616) / (2 ^ k : Nat)) % 256 := by
  have e := and255 (ushJ x q)
  have hr : 0 ≤ (ushJ x q).toInt % 256 ∧ (ushJ x q).toInt % 256 < 256 := by omega
  have e2 := i64_32 (x := ushJ x q &&& 255) (by omega)
  unfold chJ
  rw [nar_id (by omega), e2, e, ushJ_int x q k hk h0]
theorem chJ_lat (x : Int64) (q : Int32) (k : Nat) (hk : q.toBitVec.toNat % 64 = k) (h0 : 0 < k) : Lat (chJ x q) := by
  rw [lat_iff, chJ_int x q k hk h0]
  omega
theorem and3J (x : Int64) : (x &&& 3).toInt = x.toInt % 4 := c_maskL x 3 2 (by decide) (by decide)
theorem lenJ (x : Int64) : (x &&& 3).toInt32.toInt = x.toInt % 4 := by
  rw [← and3J]
  exact i64_32 (by have := and3J x; omega)
theorem len4 (x : Int64) : ((x &&& 3).toInt32 = 0 ∧ x &&& 3 = 0) ∨ ((x &&& 3).toInt32 = 1 ∧ x &&& 3 = 1) ∨ ((x &&& 3).toInt32 = 2 ∧ x &&& 3 = 2) ∨ ((x &&& 3).toInt32 = 3 ∧ x &&& 3 = 3) := by
  have h := lenJ x
  have g := and3J x
  have k : x.toInt % 4 = 0 ∨ x.toInt % 4 = 1 ∨ x.toInt % 4 = 2 ∨ x.toInt % 4 = 3 := by omega
  rcases k with k | k | k | k <;> rw [k] at h g
  · exact Or.inl ⟨toInt_eq h (by decide), Int64.toInt_inj.mp (g.trans (by decide))⟩
  · exact Or.inr (Or.inl ⟨toInt_eq h (by decide), Int64.toInt_inj.mp (g.trans (by decide))⟩)
  · exact Or.inr (Or.inr (Or.inl ⟨toInt_eq h (by decide), Int64.toInt_inj.mp (g.trans (by decide))⟩))
  · exact Or.inr (Or.inr (Or.inr ⟨toInt_eq h (by decide), Int64.toInt_inj.mp (g.trans (by decide))⟩))
theorem eq_toInt {x y : Int32} : x = y ↔ x.toInt = y.toInt := Int32.toInt_inj.symm
theorem eq_toIntL {x y : Int64} : x = y ↔ x.toInt = y.toInt := Int64.toInt_inj.symm
theorem maskJ (x m : Int64) (k : Nat) (hk : k ≤ 63) (hm : m.toBitVec.toNat = 2 ^ k - 1) : (ushJ x 8 &&& m).toInt = ((x.toInt % 18446744073709551616) / 256) % (2 ^ k : Nat) := by
  rw [c_maskL _ m k hk hm, ushJ_int x 8 8 (by decide) (by decide), p8]
theorem strJ_0 {x : Int64} (q : (x &&& 3).toInt32 = 0) : strJ x = [] := by simp [strJ, q]
theorem strJ_1 {x : Int64} (q : (x &&& 3).toInt32 = 1) : strJ x = [chJ x 8] := by simp +decide [strJ, q]
theorem strJ_2 {x : Int64} (q : (x &&& 3).toInt32 = 2) : strJ x = [chJ x 8, chJ x 16] := by simp +decide [strJ, q]
theorem strJ_3 {x : Int64} (q : (x &&& 3).toInt32 = 3) : strJ x = [chJ x 8, chJ x 16, chJ x 24] := by simp +decide [strJ, q]
/-- what same(x, y) asks is that the two texts are the same -/
theorem same_iff {x y : Int64} (h : x &&& 3 = y &&& 3) : (ushJ x 8 &&& ((1 : Int64) <<< ((8 * (x &&& 3) : Int64).toInt32 &&& 0x3f).toInt64 - 1) = ushJ y 8 &&& ((1 : Int64) <<< ((8 * (x &&& 3) : Int64).toInt32 &&& 0x3f).toInt64 - 1)) ↔ strJ x = strJ y := by
  have a8 := chJ_int x 8 8 (by decide) (by decide)
  have a16 := chJ_int x 16 16 (by decide) (by decide)
  have a24 := chJ_int x 24 24 (by decide) (by decide)
  have b8 := chJ_int y 8 8 (by decide) (by decide)
  have b16 := chJ_int y 16 16 (by decide) (by decide)
  have b24 := chJ_int y 24 24 (by decide) (by decide)
  rw [p8] at a8 b8
  rw [p16] at a16 b16
  rw [p24] at a24 b24
  rcases len4 x with ⟨q, k⟩ | ⟨q, k⟩ | ⟨q, k⟩ | ⟨q, k⟩
  · have q' : (y &&& 3).toInt32 = 0 := by rw [← h, k]; decide
    rw [k, show (1 : Int64) <<< ((8 * (0 : Int64)).toInt32 &&& 0x3f).toInt64 - 1 = 0 from by decide]
    simp [strJ, q, q', eq_toIntL, maskJ x 0 0 (by decide) (by decide), maskJ y 0 0 (by decide) (by decide)]
  · have q' : (y &&& 3).toInt32 = 1 := by rw [← h, k]; decide
    rw [k, show (1 : Int64) <<< ((8 * (1 : Int64)).toInt32 &&& 0x3f).toInt64 - 1 = 255 from by decide, eq_toIntL, maskJ x 255 8 (by decide) (by decide), maskJ y 255 8 (by decide) (by decide), p8]
    rw [strJ_1 q, strJ_1 q']
    simp only [List.cons.injEq, and_true, eq_toInt, a8, b8]
    all_goals omega
  · have q' : (y &&& 3).toInt32 = 2 := by rw [← h, k]; decide
    rw [k, show (1 : Int64) <<< ((8 * (2 : Int64)).toInt32 &&& 0x3f).toInt64 - 1 = 65535 from by decide, eq_toIntL, maskJ x 65535 16 (by decide) (by decide), maskJ y 65535 16 (by decide) (by decide), p16]
    rw [strJ_2 q, strJ_2 q']
    simp only [List.cons.injEq, and_true, eq_toInt, a8, b8, a16, b16]
    all_goals omega
  · have q' : (y &&& 3).toInt32 = 3 := by rw [← h, k]; decide
    rw [k, show (1 : Int64) <<< ((8 * (3 : Int64)).toInt32 &&& 0x3f).toInt64 - 1 = 16777215 from by decide, eq_toIntL, maskJ x 16777215 24 (by decide) (by decide), maskJ y 16777215 24 (by decide) (by decide), p24]
    rw [strJ_3 q, strJ_3 q']
    simp only [List.cons.injEq, and_true, eq_toInt, a8, b8, a16, b16, a24, b24]
    all_goals omega
theorem len_strJ (x : Int64) : ((strJ x).length : Int) = x.toInt % 4 := by
  have h := lenJ x
  rcases len4 x with ⟨q, k⟩ | ⟨q, k⟩ | ⟨q, k⟩ | ⟨q, k⟩ <;> rw [q] at h <;> rw [← h] <;> simp +decide [strJ, q]
theorem same_ne {x y : Int64} (h : ¬ x &&& 3 = y &&& 3) : ¬ strJ x = strJ y := fun q => h (by
  have e := congrArg List.length q
  have a := len_strJ x
  have b := len_strJ y
  have g := and3J x
  have g' := and3J y
  rw [eq_toIntL]
  omega)
theorem dstr_0 : decode method_3_code 0 = .ok (.lload_n 0, 1) := by decide +kernel
theorem dstr_1 : decode method_3_code 1 = .ok (.ldc2_w 26, 3) := by decide +kernel
theorem dstr_4 : decode method_3_code 4 = .ok (.land, 1) := by decide +kernel
theorem dstr_5 : decode method_3_code 5 = .ok (.l2i, 1) := by decide +kernel
theorem dstr_6 : decode method_3_code 6 = .ok (.istore_n 2, 1) := by decide +kernel
theorem dstr_7 : decode method_3_code 7 = .ok (.lload_n 0, 1) := by decide +kernel
theorem dstr_8 : decode method_3_code 8 = .ok (.bipush 8, 2) := by decide +kernel
theorem dstr_10 : decode method_3_code 10 = .ok (.lushr, 1) := by decide +kernel
theorem dstr_11 : decode method_3_code 11 = .ok (.ldc2_w 28, 3) := by decide +kernel
theorem dstr_14 : decode method_3_code 14 = .ok (.land, 1) := by decide +kernel
theorem dstr_15 : decode method_3_code 15 = .ok (.l2i, 1) := by decide +kernel
theorem dstr_16 : decode method_3_code 16 = .ok (.i2c, 1) := by decide +kernel
theorem dstr_17 : decode method_3_code 17 = .ok (.istore_n 3, 1) := by decide +kernel
theorem dstr_18 : decode method_3_code 18 = .ok (.lload_n 0, 1) := by decide +kernel
theorem dstr_19 : decode method_3_code 19 = .ok (.bipush 16, 2) := by decide +kernel
theorem dstr_21 : decode method_3_code 21 = .ok (.lushr, 1) := by decide +kernel
theorem dstr_22 : decode method_3_code 22 = .ok (.ldc2_w 28, 3) := by decide +kernel
theorem dstr_25 : decode method_3_code 25 = .ok (.land, 1) := by decide +kernel
theorem dstr_26 : decode method_3_code 26 = .ok (.l2i, 1) := by decide +kernel
theorem dstr_27 : decode method_3_code 27 = .ok (.i2c, 1) := by decide +kernel
theorem dstr_28 : decode method_3_code 28 = .ok (.istore 4, 2) := by decide +kernel
theorem dstr_30 : decode method_3_code 30 = .ok (.lload_n 0, 1) := by decide +kernel
theorem dstr_31 : decode method_3_code 31 = .ok (.bipush 24, 2) := by decide +kernel
theorem dstr_33 : decode method_3_code 33 = .ok (.lushr, 1) := by decide +kernel
theorem dstr_34 : decode method_3_code 34 = .ok (.ldc2_w 28, 3) := by decide +kernel
theorem dstr_37 : decode method_3_code 37 = .ok (.land, 1) := by decide +kernel
theorem dstr_38 : decode method_3_code 38 = .ok (.l2i, 1) := by decide +kernel
theorem dstr_39 : decode method_3_code 39 = .ok (.i2c, 1) := by decide +kernel
theorem dstr_40 : decode method_3_code 40 = .ok (.istore 5, 2) := by decide +kernel
theorem dstr_42 : decode method_3_code 42 = .ok (.iload_n 2, 1) := by decide +kernel
theorem dstr_43 : decode method_3_code 43 = .ok (.ifCond .ne 14, 3) := by decide +kernel
theorem dstr_46 : decode method_3_code 46 = .ok (.new 30, 3) := by decide +kernel
theorem dstr_49 : decode method_3_code 49 = .ok (.dup, 1) := by decide +kernel
theorem dstr_50 : decode method_3_code 50 = .ok (.iconst 0, 1) := by decide +kernel
theorem dstr_51 : decode method_3_code 51 = .ok (.newarray .char, 2) := by decide +kernel
theorem dstr_53 : decode method_3_code 53 = .ok (.invokespecial 32, 3) := by decide +kernel
theorem dstr_56 : decode method_3_code 56 = .ok (.areturn, 1) := by decide +kernel
theorem dstr_57 : decode method_3_code 57 = .ok (.iload_n 2, 1) := by decide +kernel
theorem dstr_58 : decode method_3_code 58 = .ok (.iconst 1, 1) := by decide +kernel
theorem dstr_59 : decode method_3_code 59 = .ok (.if_icmp .ne 23, 3) := by decide +kernel
theorem dstr_62 : decode method_3_code 62 = .ok (.iconst 1, 1) := by decide +kernel
theorem dstr_63 : decode method_3_code 63 = .ok (.newarray .char, 2) := by decide +kernel
theorem dstr_65 : decode method_3_code 65 = .ok (.astore 6, 2) := by decide +kernel
theorem dstr_67 : decode method_3_code 67 = .ok (.aload 6, 2) := by decide +kernel
theorem dstr_69 : decode method_3_code 69 = .ok (.iconst 0, 1) := by decide +kernel
theorem dstr_70 : decode method_3_code 70 = .ok (.iload_n 3, 1) := by decide +kernel
theorem dstr_71 : decode method_3_code 71 = .ok (.castore, 1) := by decide +kernel
theorem dstr_72 : decode method_3_code 72 = .ok (.new 30, 3) := by decide +kernel
theorem dstr_75 : decode method_3_code 75 = .ok (.dup, 1) := by decide +kernel
theorem dstr_76 : decode method_3_code 76 = .ok (.aload 6, 2) := by decide +kernel
theorem dstr_78 : decode method_3_code 78 = .ok (.invokespecial 32, 3) := by decide +kernel
theorem dstr_81 : decode method_3_code 81 = .ok (.areturn, 1) := by decide +kernel
theorem dstr_82 : decode method_3_code 82 = .ok (.iload_n 2, 1) := by decide +kernel
theorem dstr_83 : decode method_3_code 83 = .ok (.iconst 2, 1) := by decide +kernel
theorem dstr_84 : decode method_3_code 84 = .ok (.if_icmp .ne 29, 3) := by decide +kernel
theorem dstr_87 : decode method_3_code 87 = .ok (.iconst 2, 1) := by decide +kernel
theorem dstr_88 : decode method_3_code 88 = .ok (.newarray .char, 2) := by decide +kernel
theorem dstr_90 : decode method_3_code 90 = .ok (.astore 6, 2) := by decide +kernel
theorem dstr_92 : decode method_3_code 92 = .ok (.aload 6, 2) := by decide +kernel
theorem dstr_94 : decode method_3_code 94 = .ok (.iconst 0, 1) := by decide +kernel
theorem dstr_95 : decode method_3_code 95 = .ok (.iload_n 3, 1) := by decide +kernel
theorem dstr_96 : decode method_3_code 96 = .ok (.castore, 1) := by decide +kernel
theorem dstr_97 : decode method_3_code 97 = .ok (.aload 6, 2) := by decide +kernel
theorem dstr_99 : decode method_3_code 99 = .ok (.iconst 1, 1) := by decide +kernel
theorem dstr_100 : decode method_3_code 100 = .ok (.iload 4, 2) := by decide +kernel
theorem dstr_102 : decode method_3_code 102 = .ok (.castore, 1) := by decide +kernel
theorem dstr_103 : decode method_3_code 103 = .ok (.new 30, 3) := by decide +kernel
theorem dstr_106 : decode method_3_code 106 = .ok (.dup, 1) := by decide +kernel
theorem dstr_107 : decode method_3_code 107 = .ok (.aload 6, 2) := by decide +kernel
theorem dstr_109 : decode method_3_code 109 = .ok (.invokespecial 32, 3) := by decide +kernel
theorem dstr_112 : decode method_3_code 112 = .ok (.areturn, 1) := by decide +kernel
theorem dstr_113 : decode method_3_code 113 = .ok (.iconst 3, 1) := by decide +kernel
theorem dstr_114 : decode method_3_code 114 = .ok (.newarray .char, 2) := by decide +kernel
theorem dstr_116 : decode method_3_code 116 = .ok (.astore 6, 2) := by decide +kernel
theorem dstr_118 : decode method_3_code 118 = .ok (.aload 6, 2) := by decide +kernel
theorem dstr_120 : decode method_3_code 120 = .ok (.iconst 0, 1) := by decide +kernel
theorem dstr_121 : decode method_3_code 121 = .ok (.iload_n 3, 1) := by decide +kernel
theorem dstr_122 : decode method_3_code 122 = .ok (.castore, 1) := by decide +kernel
theorem dstr_123 : decode method_3_code 123 = .ok (.aload 6, 2) := by decide +kernel
theorem dstr_125 : decode method_3_code 125 = .ok (.iconst 1, 1) := by decide +kernel
theorem dstr_126 : decode method_3_code 126 = .ok (.iload 4, 2) := by decide +kernel
theorem dstr_128 : decode method_3_code 128 = .ok (.castore, 1) := by decide +kernel
theorem dstr_129 : decode method_3_code 129 = .ok (.aload 6, 2) := by decide +kernel
theorem dstr_131 : decode method_3_code 131 = .ok (.iconst 2, 1) := by decide +kernel
theorem dstr_132 : decode method_3_code 132 = .ok (.iload 5, 2) := by decide +kernel
theorem dstr_134 : decode method_3_code 134 = .ok (.castore, 1) := by decide +kernel
theorem dstr_135 : decode method_3_code 135 = .ok (.new 30, 3) := by decide +kernel
theorem dstr_138 : decode method_3_code 138 = .ok (.dup, 1) := by decide +kernel
theorem dstr_139 : decode method_3_code 139 = .ok (.aload 6, 2) := by decide +kernel
theorem dstr_141 : decode method_3_code 141 = .ok (.invokespecial 32, 3) := by decide +kernel
theorem dstr_144 : decode method_3_code 144 = .ok (.areturn, 1) := by decide +kernel
theorem pn_0 : plainName "com/example/benchwire/benchwire/protocol/hl7/TypeEqualsPinLaw" = true := by first | (simp [plainName, overriddenIn]; done) | decide +kernel
theorem ef_str (m : MethodId) (x : Int64) : entryFrame m #[.long x] 7 = mkF m 0 #[.val (.long x), .second, .unset, .unset, .unset, .unset, .unset] [] := by first | (simp [entryFrame, mkF, argsToLocals, Value.category]; done) | rfl
set_option maxRecDepth 65536 in
set_option maxHeartbeats 40000000 in
theorem rm_str {l : Launch} {Z : State} {a0 : Array Value} {zc : Int32}  (G : Gl Z a0 zc ) (h : Heap) (x : Int64)  :
    Met l Z consts_1 (⟨"com/example/benchwire/benchwire/protocol/hl7/TypeEqualsPinLaw", "str", "(J)Ljava/lang/String;"⟩ : MethodName) method_3_code 7 (some (.object "java/lang/String")) ({ frames := 4, cells := 6, slots := 12, locals := 66 } : Room) #[.long x] h [] [] (fun v h' => ∃ a, v = some (.ref a) ∧ Str Z h' a (strJ x)) := by
  have G0 := G
  obtain ⟨hw, hEL, SC, hz⟩ := G
  have hw1 : ∀ d ∈ StrChars.Road.words, d.before a0 Z = true := fun d q => hw d (sub1 d q)
  have hwA : ∀ d ∈ Bundle.stringAtoms, d.before a0 Z = true := fun d q => hw d (subA d q)
  have hw2 : ∀ d ∈ wordsS, d.before a0 Z = true := fun d q => hw d (sub2 d q)
  have hwE : ∀ d ∈ StrChars.Road.wordsEq, d.before a0 Z = true := fun d q => hw d (subE d q)
  refine Met.of (plainFor_of_name pn_0) ?_
  intro p e s m below meth c T hnm hret hlk hby hml hs w
  have hZ0 := w.old
  refine Run.cast (ef_str m x) ?_
  refine s_lload_n w (hb hby dstr_0) rfl (pc' := 1) rfl ?_
  refine w_ldcJ w (v := 3) (hw _ (List.mem_of_getElem? (i := 7) rfl)) (hb hby dstr_1) (pc' := 4) rfl ?_
  refine s_land w (hb hby dstr_4) (pc' := 5) rfl ?_
  refine s_l2i w (hb hby dstr_5) (pc' := 6) rfl ?_
  generalize hv1 : ((x &&& 3).toInt32 : Int32) = v1
  refine s_istore_n w #[.val (.long x), .second, .val (.int v1), .unset, .unset, .unset, .unset] (hb hby dstr_6) rfl (pc' := 7) rfl ?_
  refine s_lload_n w (hb hby dstr_7) rfl (pc' := 8) rfl ?_
  refine s_bipush w (hb hby dstr_8) (v := 8) rfl (pc' := 10) rfl ?_
  refine s_lushr w (hb hby dstr_10) (pc' := 11) rfl ?_
  refine w_ldcJ w (v := 255) (hw _ (List.mem_of_getElem? (i := 8) rfl)) (hb hby dstr_11) (pc' := 14) rfl ?_
  refine s_land w (hb hby dstr_14) (pc' := 15) rfl ?_
  refine s_l2i w (hb hby dstr_15) (pc' := 16) rfl ?_
  refine s_i2c w (hb hby dstr_16) (pc' := 17) rfl ?_
  generalize hv2 : ((nar .char (((ushJ x (8 : Int32)) &&& 255).toInt32)) : Int32) = v2
  refine s_istore_n w #[.val (.long x), .second, .val (.int v1), .val (.int v2), .unset, .unset, .unset] (hb hby dstr_17) rfl (pc' := 18) rfl ?_
  have hv2' : chJ x 8 = v2 := hv2
  have lv2 : Lat v2 := by rw [← hv2']; exact chJ_lat x 8 8 (by decide) (by decide)
  refine s_lload_n w (hb hby dstr_18) rfl (pc' := 19) rfl ?_
  refine s_bipush w (hb hby dstr_19) (v := 16) rfl (pc' := 21) rfl ?_
  refine s_lushr w (hb hby dstr_21) (pc' := 22) rfl ?_
  refine w_ldcJ w (v := 255) (hw _ (List.mem_of_getElem? (i := 8) rfl)) (hb hby dstr_22) (pc' := 25) rfl ?_
  refine s_land w (hb hby dstr_25) (pc' := 26) rfl ?_
  refine s_l2i w (hb hby dstr_26) (pc' := 27) rfl ?_
  refine s_i2c w (hb hby dstr_27) (pc' := 28) rfl ?_
  generalize hv3 : ((nar .char (((ushJ x (16 : Int32)) &&& 255).toInt32)) : Int32) = v3
  refine s_istore w #[.val (.long x), .second, .val (.int v1), .val (.int v2), .val (.int v3), .unset, .unset] (hb hby dstr_28) rfl (pc' := 30) rfl ?_
  have hv3' : chJ x 16 = v3 := hv3
  have lv3 : Lat v3 := by rw [← hv3']; exact chJ_lat x 16 16 (by decide) (by decide)
  refine s_lload_n w (hb hby dstr_30) rfl (pc' := 31) rfl ?_
  refine s_bipush w (hb hby dstr_31) (v := 24) rfl (pc' := 33) rfl ?_
  refine s_lushr w (hb hby dstr_33) (pc' := 34) rfl ?_
  refine w_ldcJ w (v := 255) (hw _ (List.mem_of_getElem? (i := 8) rfl)) (hb hby dstr_34) (pc' := 37) rfl ?_
  refine s_land w (hb hby dstr_37) (pc' := 38) rfl ?_
  refine s_l2i w (hb hby dstr_38) (pc' := 39) rfl ?_
  refine s_i2c w (hb hby dstr_39) (pc' := 40) rfl ?_
  generalize hv4 : ((nar .char (((ushJ x (24 : Int32)) &&& 255).toInt32)) : Int32) = v4
  refine s_istore w #[.val (.long x), .second, .val (.int v1), .val (.int v2), .val (.int v3), .val (.int v4), .unset] (hb hby dstr_40) rfl (pc' := 42) rfl ?_
  have hv4' : chJ x 24 = v4 := hv4
  have lv4 : Lat v4 := by rw [← hv4']; exact chJ_lat x 24 24 (by decide) (by decide)
  refine s_iload_n w (hb hby dstr_42) rfl (pc' := 43) rfl ?_
  refine s_if_ne w (hb hby dstr_43) (by decide) (pc1 := 46) rfl (pc2 := 57) rfl (fun ct5 => ?_) (fun ct5 => ?_)
  · -- v1 = 0
    refine w_new w (hw _ (List.mem_of_getElem? (i := 10) rfl)) (hw _ (List.mem_of_getElem? (i := 11) rfl)) (hw _ (List.mem_of_getElem? (i := 12) rfl)) (hb hby dstr_46) (pc' := 49) rfl (by decide) (by decide) fun T h6 x7 w E8 q9 r10 A11 D12 => ?_
    have F_coder_x7 : Fld Z h6 x7 "java/lang/String" "coder" "B" (.int 0) := D12 (Or.inr (hw _ (List.mem_of_getElem? (i := 36) rfl))) (ty := .byte) (by decide)
    have F_value_x7 : Fld Z h6 x7 "java/lang/String" "value" "[B" (.null) := D12 (Or.inr (hw _ (List.mem_of_getElem? (i := 38) rfl))) (ty := (.array .byte)) (by decide)
    refine s_dup w (hb hby dstr_49) rfl (pc' := 50) rfl ?_
    refine s_iconst w (hb hby dstr_50) (v := 0) rfl (pc' := 51) rfl ?_
    refine w_newP w (hw _ (List.mem_of_getElem? (i := 9) rfl)) rfl rfl (hb hby dstr_51) (by decide) (n := 0) (by decide) (by decide) (pc' := 53) rfl (by decide) (by decide) fun T h13 x14 k15 w E16 q17 r18 V19 => ?_
    refine w_strInit w hEL hmem hw1 hw2 (hw _ (List.mem_of_getElem? (i := 13) rfl)) (hw _ (List.mem_of_getElem? (i := 14) rfl)) (cs := []) (n := 0) (A11.ext E16) (F_value_x7.ext E16) (F_coder_x7.ext E16) (show Arv Z h13 x14 k15 .char 0 (([] : List Int32).map Value.int) (.int 0) from V19) SC hz rfl rfl (by decide) (by intro c q; cases q) (List.mem_of_getElem? (i := 1) rfl) (Or.inr r10) (Nat.le_trans hZ0.1 r10) (hb hby dstr_53) (by rw [hml]; rfl) (W := 1) (Nat.le_of_eq rfl) (by decide) (by decide) (by decide) (by decide) (pc' := 56) rfl fun T h20 w K21 F22 => ?_
    have E23 := Ext.kp (Ext.tr E8 E16) K21 (allS q9 all0)
    refine w_areturn w hEL hs hlk hret rfl rfl (hb hby dstr_56) (by decide) (by decide) ⟨x7, rfl, ?_⟩
    have e : strJ x = [] := by simp [strJ, hv1, hv2', hv3', hv4', ct5]
    rw [e]; exact F22
  · -- ¬ (v1 = 0)
    refine s_iload_n w (hb hby dstr_57) rfl (pc' := 58) rfl ?_
    refine s_iconst w (hb hby dstr_58) (v := 1) rfl (pc' := 59) rfl ?_
    refine s_icmp_ne w (hb hby dstr_59) (by decide) (pc1 := 62) rfl (pc2 := 82) rfl (fun ct24 => ?_) (fun ct24 => ?_)
    · -- v1 = 1
      refine s_iconst w (hb hby dstr_62) (v := 1) rfl (pc' := 63) rfl ?_
      refine w_newP w (hw _ (List.mem_of_getElem? (i := 9) rfl)) rfl rfl (hb hby dstr_63) (by decide) (n := 1) (by decide) (by decide) (pc' := 65) rfl (by decide) (by decide) fun T h25 x26 k27 w E28 q29 r30 V31 => ?_
      refine s_astore w #[.val (.long x), .second, .val (.int v1), .val (.int v2), .val (.int v3), .val (.int v4), .val (.ref x26)] (hb hby dstr_65) rfl rfl (pc' := 67) rfl ?_
      refine s_aload w (hb hby dstr_67) rfl rfl (pc' := 69) rfl ?_
      refine s_iconst w (hb hby dstr_69) (v := 0) rfl (pc' := 70) rfl ?_
      refine s_iload_n w (hb hby dstr_70) rfl (pc' := 71) rfl ?_
      refine w_stC w V31 (i := 0) (by decide) rfl (by decide) (Nat.le_of_ble_eq_true rfl) lv2.nar (hb hby dstr_71) (Or.inr r30) (pc' := 72) rfl fun T h32 w W33 V34 => ?_
      have E35 := Ext.wr' E28 W33 q29
      refine w_new w (hw _ (List.mem_of_getElem? (i := 10) rfl)) (hw _ (List.mem_of_getElem? (i := 11) rfl)) (hw _ (List.mem_of_getElem? (i := 12) rfl)) (hb hby dstr_72) (pc' := 75) rfl (by decide) (by decide) fun T h36 x37 w E38 q39 r40 A41 D42 => ?_
      have F_coder_x37 : Fld Z h36 x37 "java/lang/String" "coder" "B" (.int 0) := D42 (Or.inr (hw _ (List.mem_of_getElem? (i := 36) rfl))) (ty := .byte) (by decide)
      have F_value_x37 : Fld Z h36 x37 "java/lang/String" "value" "[B" (.null) := D42 (Or.inr (hw _ (List.mem_of_getElem? (i := 38) rfl))) (ty := (.array .byte)) (by decide)
      refine s_dup w (hb hby dstr_75) rfl (pc' := 76) rfl ?_
      refine s_aload w (hb hby dstr_76) rfl rfl (pc' := 78) rfl ?_
      refine w_strInitP w hw1 (hw _ (List.mem_of_getElem? (i := 11) rfl)) (hw _ (List.mem_of_getElem? (i := 13) rfl)) (hw _ (List.mem_of_getElem? (i := 14) rfl)) (cs := [v2]) (n := 1) A41 F_value_x37 F_coder_x37 (show Arv Z h36 x26 k27 .char 1 (([v2] : List Int32).map Value.int) (.int 0) from (V34.ext E38)) SC hz rfl rfl (by decide) (by decide) (by intro c q; simp only [List.mem_cons, List.not_mem_nil, or_false] at q; rcases q with rfl <;> first | exact lv2) (List.mem_of_getElem? (i := 0) rfl) (Or.inr r40) (Nat.le_trans hZ0.1 r40) (hb hby dstr_78) (by rw [hml]; rfl) (W := 1) (Nat.le_of_eq rfl) (by decide) (by decide) (by decide) (by decide) (pc' := 81) rfl fun T h43 w K44 F45 => ?_
      have E46 := Ext.kp E38 K44 (allS q39 all0)
      refine w_areturn w hEL hs hlk hret rfl rfl (hb hby dstr_81) (by decide) (by decide) ⟨x37, rfl, ?_⟩
      have e : strJ x = [v2] := by simp [strJ, hv1, hv2', hv3', hv4', ct5, ct24]
      rw [e]; exact F45
    · -- ¬ (v1 = 1)
      refine s_iload_n w (hb hby dstr_82) rfl (pc' := 83) rfl ?_
      refine s_iconst w (hb hby dstr_83) (v := 2) rfl (pc' := 84) rfl ?_
      refine s_icmp_ne w (hb hby dstr_84) (by decide) (pc1 := 87) rfl (pc2 := 113) rfl (fun ct47 => ?_) (fun ct47 => ?_)
      · -- v1 = 2
        refine s_iconst w (hb hby dstr_87) (v := 2) rfl (pc' := 88) rfl ?_
        refine w_newP w (hw _ (List.mem_of_getElem? (i := 9) rfl)) rfl rfl (hb hby dstr_88) (by decide) (n := 2) (by decide) (by decide) (pc' := 90) rfl (by decide) (by decide) fun T h48 x49 k50 w E51 q52 r53 V54 => ?_
        refine s_astore w #[.val (.long x), .second, .val (.int v1), .val (.int v2), .val (.int v3), .val (.int v4), .val (.ref x49)] (hb hby dstr_90) rfl rfl (pc' := 92) rfl ?_
        refine s_aload w (hb hby dstr_92) rfl rfl (pc' := 94) rfl ?_
        refine s_iconst w (hb hby dstr_94) (v := 0) rfl (pc' := 95) rfl ?_
        refine s_iload_n w (hb hby dstr_95) rfl (pc' := 96) rfl ?_
        refine w_stC w V54 (i := 0) (by decide) rfl (by decide) (Nat.le_of_ble_eq_true rfl) lv2.nar (hb hby dstr_96) (Or.inr r53) (pc' := 97) rfl fun T h55 w W56 V57 => ?_
        have E58 := Ext.wr' E51 W56 q52
        refine s_aload w (hb hby dstr_97) rfl rfl (pc' := 99) rfl ?_
        refine s_iconst w (hb hby dstr_99) (v := 1) rfl (pc' := 100) rfl ?_
        refine s_iload w (hb hby dstr_100) rfl (pc' := 102) rfl ?_
        refine w_stC w V57 (i := 1) (by decide) rfl (by decide) (Nat.le_of_ble_eq_true rfl) lv3.nar (hb hby dstr_102) (Or.inr r53) (pc' := 103) rfl fun T h59 w W60 V61 => ?_
        have E62 := Ext.wr' E58 W60 q52
        refine w_new w (hw _ (List.mem_of_getElem? (i := 10) rfl)) (hw _ (List.mem_of_getElem? (i := 11) rfl)) (hw _ (List.mem_of_getElem? (i := 12) rfl)) (hb hby dstr_103) (pc' := 106) rfl (by decide) (by decide) fun T h63 x64 w E65 q66 r67 A68 D69 => ?_
        have F_coder_x64 : Fld Z h63 x64 "java/lang/String" "coder" "B" (.int 0) := D69 (Or.inr (hw _ (List.mem_of_getElem? (i := 36) rfl))) (ty := .byte) (by decide)
        have F_value_x64 : Fld Z h63 x64 "java/lang/String" "value" "[B" (.null) := D69 (Or.inr (hw _ (List.mem_of_getElem? (i := 38) rfl))) (ty := (.array .byte)) (by decide)
        refine s_dup w (hb hby dstr_106) rfl (pc' := 107) rfl ?_
        refine s_aload w (hb hby dstr_107) rfl rfl (pc' := 109) rfl ?_
        refine w_strInitP w hw1 (hw _ (List.mem_of_getElem? (i := 11) rfl)) (hw _ (List.mem_of_getElem? (i := 13) rfl)) (hw _ (List.mem_of_getElem? (i := 14) rfl)) (cs := [v2, v3]) (n := 2) A68 F_value_x64 F_coder_x64 (show Arv Z h63 x49 k50 .char 2 (([v2, v3] : List Int32).map Value.int) (.int 0) from (V61.ext E65)) SC hz rfl rfl (by decide) (by decide) (by intro c q; simp only [List.mem_cons, List.not_mem_nil, or_false] at q; rcases q with rfl | rfl <;> first | exact lv2 | exact lv3) (List.mem_of_getElem? (i := 0) rfl) (Or.inr r67) (Nat.le_trans hZ0.1 r67) (hb hby dstr_109) (by rw [hml]; rfl) (W := 1) (Nat.le_of_eq rfl) (by decide) (by decide) (by decide) (by decide) (pc' := 112) rfl fun T h70 w K71 F72 => ?_
        have E73 := Ext.kp E65 K71 (allS q66 all0)
        refine w_areturn w hEL hs hlk hret rfl rfl (hb hby dstr_112) (by decide) (by decide) ⟨x64, rfl, ?_⟩
        have e : strJ x = [v2, v3] := by simp [strJ, hv1, hv2', hv3', hv4', ct5, ct24, ct47]
        rw [e]; exact F72
      · -- ¬ (v1 = 2)
        refine s_iconst w (hb hby dstr_113) (v := 3) rfl (pc' := 114) rfl ?_
        refine w_newP w (hw _ (List.mem_of_getElem? (i := 9) rfl)) rfl rfl (hb hby dstr_114) (by decide) (n := 3) (by decide) (by decide) (pc' := 116) rfl (by decide) (by decide) fun T h74 x75 k76 w E77 q78 r79 V80 => ?_
        refine s_astore w #[.val (.long x), .second, .val (.int v1), .val (.int v2), .val (.int v3), .val (.int v4), .val (.ref x75)] (hb hby dstr_116) rfl rfl (pc' := 118) rfl ?_
        refine s_aload w (hb hby dstr_118) rfl rfl (pc' := 120) rfl ?_
        refine s_iconst w (hb hby dstr_120) (v := 0) rfl (pc' := 121) rfl ?_
        refine s_iload_n w (hb hby dstr_121) rfl (pc' := 122) rfl ?_
        refine w_stC w V80 (i := 0) (by decide) rfl (by decide) (Nat.le_of_ble_eq_true rfl) lv2.nar (hb hby dstr_122) (Or.inr r79) (pc' := 123) rfl fun T h81 w W82 V83 => ?_
        have E84 := Ext.wr' E77 W82 q78
        refine s_aload w (hb hby dstr_123) rfl rfl (pc' := 125) rfl ?_
        refine s_iconst w (hb hby dstr_125) (v := 1) rfl (pc' := 126) rfl ?_
        refine s_iload w (hb hby dstr_126) rfl (pc' := 128) rfl ?_
        refine w_stC w V83 (i := 1) (by decide) rfl (by decide) (Nat.le_of_ble_eq_true rfl) lv3.nar (hb hby dstr_128) (Or.inr r79) (pc' := 129) rfl fun T h85 w W86 V87 => ?_
        have E88 := Ext.wr' E84 W86 q78
        refine s_aload w (hb hby dstr_129) rfl rfl (pc' := 131) rfl ?_
        refine s_iconst w (hb hby dstr_131) (v := 2) rfl (pc' := 132) rfl ?_
        refine s_iload w (hb hby dstr_132) rfl (pc' := 134) rfl ?_
        refine w_stC w V87 (i := 2) (by decide) rfl (by decide) (Nat.le_of_ble_eq_true rfl) lv4.nar (hb hby dstr_134) (Or.inr r79) (pc' := 135) rfl fun T h89 w W90 V91 => ?_
        have E92 := Ext.wr' E88 W90 q78
        refine w_new w (hw _ (List.mem_of_getElem? (i := 10) rfl)) (hw _ (List.mem_of_getElem? (i := 11) rfl)) (hw _ (List.mem_of_getElem? (i := 12) rfl)) (hb hby dstr_135) (pc' := 138) rfl (by decide) (by decide) fun T h93 x94 w E95 q96 r97 A98 D99 => ?_
        have F_coder_x94 : Fld Z h93 x94 "java/lang/String" "coder" "B" (.int 0) := D99 (Or.inr (hw _ (List.mem_of_getElem? (i := 36) rfl))) (ty := .byte) (by decide)
        have F_value_x94 : Fld Z h93 x94 "java/lang/String" "value" "[B" (.null) := D99 (Or.inr (hw _ (List.mem_of_getElem? (i := 38) rfl))) (ty := (.array .byte)) (by decide)
        refine s_dup w (hb hby dstr_138) rfl (pc' := 139) rfl ?_
        refine s_aload w (hb hby dstr_139) rfl rfl (pc' := 141) rfl ?_
        refine w_strInitP w hw1 (hw _ (List.mem_of_getElem? (i := 11) rfl)) (hw _ (List.mem_of_getElem? (i := 13) rfl)) (hw _ (List.mem_of_getElem? (i := 14) rfl)) (cs := [v2, v3, v4]) (n := 3) A98 F_value_x94 F_coder_x94 (show Arv Z h93 x75 k76 .char 3 (([v2, v3, v4] : List Int32).map Value.int) (.int 0) from (V91.ext E95)) SC hz rfl rfl (by decide) (by decide) (by intro c q; simp only [List.mem_cons, List.not_mem_nil, or_false] at q; rcases q with rfl | rfl | rfl <;> first | exact lv2 | exact lv3 | exact lv4) (List.mem_of_getElem? (i := 0) rfl) (Or.inr r97) (Nat.le_trans hZ0.1 r97) (hb hby dstr_141) (by rw [hml]; rfl) (W := 1) (Nat.le_of_eq rfl) (by decide) (by decide) (by decide) (by decide) (pc' := 144) rfl fun T h100 w K101 F102 => ?_
        have E103 := Ext.kp E95 K101 (allS q96 all0)
        refine w_areturn w hEL hs hlk hret rfl rfl (hb hby dstr_144) (by decide) (by decide) ⟨x94, rfl, ?_⟩
        have e : strJ x = [v2, v3, v4] := by simp [strJ, hv1, hv2', hv3', hv4', ct5, ct24, ct47]
        rw [e]; exact F102
theorem dsame_0 : decode method_4_code 0 = .ok (.lload_n 0, 1) := by decide +kernel
theorem dsame_1 : decode method_4_code 1 = .ok (.ldc2_w 26, 3) := by decide +kernel
theorem dsame_4 : decode method_4_code 4 = .ok (.land, 1) := by decide +kernel
theorem dsame_5 : decode method_4_code 5 = .ok (.lstore 4, 2) := by decide +kernel
theorem dsame_7 : decode method_4_code 7 = .ok (.lload_n 2, 1) := by decide +kernel
theorem dsame_8 : decode method_4_code 8 = .ok (.ldc2_w 26, 3) := by decide +kernel
theorem dsame_11 : decode method_4_code 11 = .ok (.land, 1) := by decide +kernel
theorem dsame_12 : decode method_4_code 12 = .ok (.lstore 6, 2) := by decide +kernel
theorem dsame_14 : decode method_4_code 14 = .ok (.lload 4, 2) := by decide +kernel
theorem dsame_16 : decode method_4_code 16 = .ok (.lload 6, 2) := by decide +kernel
theorem dsame_18 : decode method_4_code 18 = .ok (.lcmp, 1) := by decide +kernel
theorem dsame_19 : decode method_4_code 19 = .ok (.ifCond .eq 5, 3) := by decide +kernel
theorem dsame_22 : decode method_4_code 22 = .ok (.iconst 0, 1) := by decide +kernel
theorem dsame_23 : decode method_4_code 23 = .ok (.ireturn, 1) := by decide +kernel
theorem dsame_24 : decode method_4_code 24 = .ok (.lconst 1, 1) := by decide +kernel
theorem dsame_25 : decode method_4_code 25 = .ok (.ldc2_w 35, 3) := by decide +kernel
theorem dsame_28 : decode method_4_code 28 = .ok (.lload 4, 2) := by decide +kernel
theorem dsame_30 : decode method_4_code 30 = .ok (.lmul, 1) := by decide +kernel
theorem dsame_31 : decode method_4_code 31 = .ok (.l2i, 1) := by decide +kernel
theorem dsame_32 : decode method_4_code 32 = .ok (.lshl, 1) := by decide +kernel
theorem dsame_33 : decode method_4_code 33 = .ok (.lconst 1, 1) := by decide +kernel
theorem dsame_34 : decode method_4_code 34 = .ok (.lsub, 1) := by decide +kernel
theorem dsame_35 : decode method_4_code 35 = .ok (.lstore 8, 2) := by decide +kernel
theorem dsame_37 : decode method_4_code 37 = .ok (.lload_n 0, 1) := by decide +kernel
theorem dsame_38 : decode method_4_code 38 = .ok (.bipush 8, 2) := by decide +kernel
theorem dsame_40 : decode method_4_code 40 = .ok (.lushr, 1) := by decide +kernel
theorem dsame_41 : decode method_4_code 41 = .ok (.lload 8, 2) := by decide +kernel
theorem dsame_43 : decode method_4_code 43 = .ok (.land, 1) := by decide +kernel
theorem dsame_44 : decode method_4_code 44 = .ok (.lload_n 2, 1) := by decide +kernel
theorem dsame_45 : decode method_4_code 45 = .ok (.bipush 8, 2) := by decide +kernel
theorem dsame_47 : decode method_4_code 47 = .ok (.lushr, 1) := by decide +kernel
theorem dsame_48 : decode method_4_code 48 = .ok (.lload 8, 2) := by decide +kernel
theorem dsame_50 : decode method_4_code 50 = .ok (.land, 1) := by decide +kernel
theorem dsame_51 : decode method_4_code 51 = .ok (.lcmp, 1) := by decide +kernel
theorem dsame_52 : decode method_4_code 52 = .ok (.ifCond .ne 7, 3) := by decide +kernel
theorem dsame_55 : decode method_4_code 55 = .ok (.iconst 1, 1) := by decide +kernel
theorem dsame_56 : decode method_4_code 56 = .ok (.goto 4, 3) := by decide +kernel
theorem dsame_59 : decode method_4_code 59 = .ok (.iconst 0, 1) := by decide +kernel
theorem dsame_60 : decode method_4_code 60 = .ok (.ireturn, 1) := by decide +kernel
theorem ef_same (m : MethodId) (x : Int64) (y : Int64) : entryFrame m #[.long x, .long y] 10 = mkF m 0 #[.val (.long x), .second, .val (.long y), .second, .unset, .unset, .unset, .unset, .unset, .unset] [] := by first | (simp [entryFrame, mkF, argsToLocals, Value.category]; done) | rfl
set_option maxRecDepth 65536 in
set_option maxHeartbeats 40000000 in
theorem rm_same {l : Launch} {Z : State} {a0 : Array Value} {zc : Int32}  (G : Gl Z a0 zc ) (h : Heap) (x : Int64) (y : Int64)  :
    Met l Z consts_1 (⟨"com/example/benchwire/benchwire/protocol/hl7/TypeEqualsPinLaw", "same", "(JJ)Z"⟩ : MethodName) method_4_code 10 (some .boolean) ({ frames := 0, cells := 0, slots := 0, locals := 0 } : Room) #[.long x, .long y] h [] [] (fun v h' => v = some (.int (if strJ x = strJ y then 1 else 0)) ∧ h = h') := by
  have G0 := G
  obtain ⟨hw, hEL, SC, hz⟩ := G
  have hw1 : ∀ d ∈ StrChars.Road.words, d.before a0 Z = true := fun d q => hw d (sub1 d q)
  have hwA : ∀ d ∈ Bundle.stringAtoms, d.before a0 Z = true := fun d q => hw d (subA d q)
  have hw2 : ∀ d ∈ wordsS, d.before a0 Z = true := fun d q => hw d (sub2 d q)
  have hwE : ∀ d ∈ StrChars.Road.wordsEq, d.before a0 Z = true := fun d q => hw d (subE d q)
  refine Met.of (plainFor_of_name pn_0) ?_
  intro p e s m below meth c T hnm hret hlk hby hml hs w
  have hZ0 := w.old
  refine Run.cast (ef_same m x y) ?_
  refine s_lload_n w (hb hby dsame_0) rfl (pc' := 1) rfl ?_
  refine w_ldcJ w (v := 3) (hw _ (List.mem_of_getElem? (i := 7) rfl)) (hb hby dsame_1) (pc' := 4) rfl ?_
  refine s_land w (hb hby dsame_4) (pc' := 5) rfl ?_
  refine s_lstore w #[.val (.long x), .second, .val (.long y), .second, .val (.long (x &&& 3)), .second, .unset, .unset, .unset, .unset] (hb hby dsame_5) rfl (pc' := 7) rfl ?_
  refine s_lload_n w (hb hby dsame_7) rfl (pc' := 8) rfl ?_
  refine w_ldcJ w (v := 3) (hw _ (List.mem_of_getElem? (i := 7) rfl)) (hb hby dsame_8) (pc' := 11) rfl ?_
  refine s_land w (hb hby dsame_11) (pc' := 12) rfl ?_
  refine s_lstore w #[.val (.long x), .second, .val (.long y), .second, .val (.long (x &&& 3)), .second, .val (.long (y &&& 3)), .second, .unset, .unset] (hb hby dsame_12) rfl (pc' := 14) rfl ?_
  refine s_lload w (hb hby dsame_14) rfl (pc' := 16) rfl ?_
  refine s_lload w (hb hby dsame_16) rfl (pc' := 18) rfl ?_
  refine s_lcmp w (hb hby dsame_18) (pc' := 19) rfl ?_
  refine s_lif_eq w (hb hby dsame_19) (by decide) (pc1 := 22) rfl (pc2 := 24) rfl (fun ct1 => ?_) (fun ct1 => ?_)
  · -- ¬ ((x &&& 3) = (y &&& 3))
    refine s_iconst w (hb hby dsame_22) (v := 0) rfl (pc' := 23) rfl ?_
    refine w_ireturn w hEL hs hlk hret rfl (Or.inr (Or.inl rfl)) (hb hby dsame_23) (by decide) (by decide) ⟨?_, rfl⟩
    rw [if_neg (same_ne ct1)]
  · -- (x &&& 3) = (y &&& 3)
    refine s_lconst w (hb hby dsame_24) (v := 1) rfl (pc' := 25) rfl ?_
    refine w_ldcJ w (v := 8) (hw _ (List.mem_of_getElem? (i := 70) rfl)) (hb hby dsame_25) (pc' := 28) rfl ?_
    refine s_lload w (hb hby dsame_28) rfl (pc' := 30) rfl ?_
    refine s_lmul w (hb hby dsame_30) (pc' := 31) rfl ?_
    refine s_l2i w (hb hby dsame_31) (pc' := 32) rfl ?_
    refine s_lshl w (hb hby dsame_32) (pc' := 33) rfl ?_
    refine s_lconst w (hb hby dsame_33) (v := 1) rfl (pc' := 34) rfl ?_
    refine s_lsub w (hb hby dsame_34) (pc' := 35) rfl ?_
    refine s_lstore w #[.val (.long x), .second, .val (.long y), .second, .val (.long (x &&& 3)), .second, .val (.long (y &&& 3)), .second, .val (.long ((1 <<< (((8 * (x &&& 3)).toInt32) &&& 0x3f).toInt64) - 1)), .second] (hb hby dsame_35) rfl (pc' := 37) rfl ?_
    refine s_lload_n w (hb hby dsame_37) rfl (pc' := 38) rfl ?_
    refine s_bipush w (hb hby dsame_38) (v := 8) rfl (pc' := 40) rfl ?_
    refine s_lushr w (hb hby dsame_40) (pc' := 41) rfl ?_
    refine s_lload w (hb hby dsame_41) rfl (pc' := 43) rfl ?_
    refine s_land w (hb hby dsame_43) (pc' := 44) rfl ?_
    refine s_lload_n w (hb hby dsame_44) rfl (pc' := 45) rfl ?_
    refine s_bipush w (hb hby dsame_45) (v := 8) rfl (pc' := 47) rfl ?_
    refine s_lushr w (hb hby dsame_47) (pc' := 48) rfl ?_
    refine s_lload w (hb hby dsame_48) rfl (pc' := 50) rfl ?_
    refine s_land w (hb hby dsame_50) (pc' := 51) rfl ?_
    refine s_lcmp w (hb hby dsame_51) (pc' := 52) rfl ?_
    refine s_lif_ne w (hb hby dsame_52) (by decide) (pc1 := 55) rfl (pc2 := 59) rfl (fun ct2 => ?_) (fun ct2 => ?_)
    · -- ((ushJ x (8 : Int32)) &&& ((1 <<< (((8 * (x &&& 3)).toInt32) &&& 0x3f).toInt64) - 1)) = ((ushJ y (8 : Int32)) &&& ((1 <<< (((8 * (x &&& 3)).toInt32) &&& 0x3f).toInt64) - 1))
      refine s_iconst w (hb hby dsame_55) (v := 1) rfl (pc' := 56) rfl ?_
      refine s_goto w (hb hby dsame_56) (by decide) (pc' := 60) rfl ?_
      refine w_ireturn w hEL hs hlk hret rfl (Or.inr (Or.inl rfl)) (hb hby dsame_60) (by decide) (by decide) ⟨?_, rfl⟩
      rw [if_pos ((same_iff ct1).mp ct2)]
    · -- ¬ (((ushJ x (8 : Int32)) &&& ((1 <<< (((8 * (x &&& 3)).toInt32) &&& 0x3f).toInt64) - 1)) = ((ushJ y (8 : Int32)) &&& ((1 <<< (((8 * (x &&& 3)).toInt32) &&& 0x3f).toInt64) - 1)))
      refine s_iconst w (hb hby dsame_59) (v := 0) rfl (pc' := 60) rfl ?_
      refine w_ireturn w hEL hs hlk hret rfl (Or.inr (Or.inl rfl)) (hb hby dsame_60) (by decide) (by decide) ⟨?_, rfl⟩
      rw [if_neg fun q => ct2 ((same_iff ct1).mpr q)]
theorem drec_0 : decode jdk_30_method_1_code 0 = .ok (.aload_n 0, 1) := by decide +kernel
theorem drec_1 : decode jdk_30_method_1_code 1 = .ok (.invokespecial 1, 3) := by decide +kernel
theorem drec_4 : decode jdk_30_method_1_code 4 = .ok (.return_, 1) := by decide +kernel
theorem pn_1 : plainName "java/lang/Record" = true := by first | (simp [plainName, overriddenIn]; done) | decide +kernel
theorem ef_rec (m : MethodId) (a : Addr) : entryFrame m #[.ref a] 1 = mkF m 0 #[.val (.ref a)] [] := by first | (simp [entryFrame, mkF, argsToLocals, Value.category]; done) | rfl
set_option maxRecDepth 65536 in
set_option maxHeartbeats 40000000 in
theorem rm_rec {l : Launch} {Z : State} {a0 : Array Value} {zc : Int32}  (G : Gl Z a0 zc ) (h : Heap) (a : Addr)  :
    Met l Z consts_1 (⟨"java/lang/Record", "<init>", "()V"⟩ : MethodName) jdk_30_method_1_code 1 none ({ frames := 1, cells := 0, slots := 0, locals := 12 } : Room) #[.ref a] h [] [] (fun v h' => v = none ∧ h = h') := by
  have G0 := G
  obtain ⟨hw, hEL, SC, hz⟩ := G
  have hw1 : ∀ d ∈ StrChars.Road.words, d.before a0 Z = true := fun d q => hw d (sub1 d q)
  have hwA : ∀ d ∈ Bundle.stringAtoms, d.before a0 Z = true := fun d q => hw d (subA d q)
  have hw2 : ∀ d ∈ wordsS, d.before a0 Z = true := fun d q => hw d (sub2 d q)
  have hwE : ∀ d ∈ StrChars.Road.wordsEq, d.before a0 Z = true := fun d q => hw d (subE d q)
  refine Met.of (plainFor_of_name pn_1) ?_
  intro p e s m below meth c T hnm hret hlk hby hml hs w
  have hZ0 := w.old
  refine Run.cast (ef_rec m a) ?_
  refine s_aload_n w (hb hby drec_0) rfl rfl (pc' := 1) rfl ?_
  refine w_objInit w (hw _ (List.mem_of_getElem? (i := 47) rfl)) (hw _ (List.mem_of_getElem? (i := 21) rfl)) (hw _ (List.mem_of_getElem? (i := 22) rfl)) (hb hby drec_1) (by rw [hml]; rfl) (by decide) (W := 0) (Nat.le_of_eq rfl) (by decide) (pc' := 4) rfl fun T w => ?_
  exact w_return w hEL hs hlk hret (hb hby drec_4) (by decide) (by decide) ⟨rfl, rfl⟩
theorem dty_0 : decode prog_102_method_1_code 0 = .ok (.aload_n 0, 1) := by decide +kernel
theorem dty_1 : decode prog_102_method_1_code 1 = .ok (.invokespecial 1, 3) := by decide +kernel
theorem dty_4 : decode prog_102_method_1_code 4 = .ok (.aload_n 0, 1) := by decide +kernel
theorem dty_5 : decode prog_102_method_1_code 5 = .ok (.aload_n 1, 1) := by decide +kernel
theorem dty_6 : decode prog_102_method_1_code 6 = .ok (.putfield 7, 3) := by decide +kernel
theorem dty_9 : decode prog_102_method_1_code 9 = .ok (.aload_n 0, 1) := by decide +kernel
theorem dty_10 : decode prog_102_method_1_code 10 = .ok (.aload_n 2, 1) := by decide +kernel
theorem dty_11 : decode prog_102_method_1_code 11 = .ok (.putfield 13, 3) := by decide +kernel
theorem dty_14 : decode prog_102_method_1_code 14 = .ok (.return_, 1) := by decide +kernel
theorem pn_2 : plainName "com/example/benchwire/benchwire/protocol/hl7/Hl7Message$Type" = true := by first | (simp [plainName, overriddenIn]; done) | decide +kernel
theorem ef_ty (m : MethodId) (a : Addr) (k : Addr) (t : Addr) : entryFrame m #[.ref a, .ref k, .ref t] 3 = mkF m 0 #[.val (.ref a), .val (.ref k), .val (.ref t)] [] := by first | (simp [entryFrame, mkF, argsToLocals, Value.category]; done) | rfl
set_option maxRecDepth 65536 in
set_option maxHeartbeats 40000000 in
theorem rm_ty {l : Launch} {Z : State} {a0 : Array Value} {zc : Int32}  (G : Gl Z a0 zc ) (h : Heap) (a : Addr) (k : Addr) (t : Addr) (v0 v1 : Value) (E0 : Exa Z h a "com/example/benchwire/benchwire/protocol/hl7/Hl7Message$Type") (F_1 : Fld Z h a "com/example/benchwire/benchwire/protocol/hl7/Hl7Message$Type" "code" "Ljava/lang/String;" v0) (F_2 : Fld Z h a "com/example/benchwire/benchwire/protocol/hl7/Hl7Message$Type" "event" "Ljava/lang/String;" v1) :
    Met l Z consts_1 (⟨"com/example/benchwire/benchwire/protocol/hl7/Hl7Message$Type", "<init>", "(Ljava/lang/String;Ljava/lang/String;)V"⟩ : MethodName) prog_102_method_1_code 3 none ({ frames := 2, cells := 0, slots := 0, locals := 24 } : Room) #[.ref a, .ref k, .ref t] h [] [a] (fun v h' => v = none ∧ Exa Z h' a "com/example/benchwire/benchwire/protocol/hl7/Hl7Message$Type" ∧ Fld Z h' a "com/example/benchwire/benchwire/protocol/hl7/Hl7Message$Type" "code" "Ljava/lang/String;" (.ref k) ∧ Fld Z h' a "com/example/benchwire/benchwire/protocol/hl7/Hl7Message$Type" "event" "Ljava/lang/String;" (.ref t)) := by
  have G0 := G
  obtain ⟨hw, hEL, SC, hz⟩ := G
  have hw1 : ∀ d ∈ StrChars.Road.words, d.before a0 Z = true := fun d q => hw d (sub1 d q)
  have hwA : ∀ d ∈ Bundle.stringAtoms, d.before a0 Z = true := fun d q => hw d (subA d q)
  have hw2 : ∀ d ∈ wordsS, d.before a0 Z = true := fun d q => hw d (sub2 d q)
  have hwE : ∀ d ∈ StrChars.Road.wordsEq, d.before a0 Z = true := fun d q => hw d (subE d q)
  refine Met.of (plainFor_of_name pn_2) ?_
  intro p e s m below meth c T hnm hret hlk hby hml hs w
  have hZ0 := w.old
  refine Run.cast (ef_ty m a k t) ?_
  refine s_aload_n w (hb hby dty_0) rfl rfl (pc' := 1) rfl ?_
  refine w_special w hEL (y := (⟨"java/lang/Record", "<init>", "()V"⟩ : MethodName)) (a := a) rfl (hw _ (List.mem_of_getElem? (i := 42) rfl)) (hw _ (List.mem_of_getElem? (i := 43) rfl)) (hw _ (List.mem_of_getElem? (i := 45) rfl)) (hw _ (List.mem_of_getElem? (i := 46) rfl)) (by decide) (rm_rec G0 h a) all0 all0 (argsL := []) (rest := []) (lenOf (by decide +kernel : parseMethodDescriptor "()V" = some ⟨[], none⟩) rfl) rfl rfl (hb hby dty_1) (by rw [hml]; rfl) (W := 0) (Nat.le_of_eq rfl) (by decide) (by decide) (by decide) (by decide) (pc' := 4) rfl fun u1 T h2 w K3 P4 => ?_
  obtain ⟨rfl, rfl⟩ := P4
  show Run p e below _ T (mkF m 4 #[.val (.ref a), .val (.ref k), .val (.ref t)] [])
  refine s_aload_n w (hb hby dty_4) rfl rfl (pc' := 5) rfl ?_
  refine s_aload_n w (hb hby dty_5) rfl rfl (pc' := 6) rfl ?_
  refine w_putF w (hw _ (List.mem_of_getElem? (i := 48) rfl)) Via.refl F_1 E0 (Or.inr ⟨(hw _ (List.mem_of_getElem? (i := 49) rfl)), rfl, hnm⟩) (hw _ (List.mem_of_getElem? (i := 1) rfl)) (ty := (.object "java/lang/String")) (by decide) rfl rfl (hb hby dty_6) (Or.inl (List.mem_singleton.mpr rfl)) (Or.inl ⟨by decide, by decide⟩) (pc' := 9) rfl fun T h1 w W1 F1 X1 => ?_
  have sn : Jvm.RoadKit.slotOf Z "com/example/benchwire/benchwire/protocol/hl7/Hl7Message$Type" "event" "Ljava/lang/String;" ≠ Jvm.RoadKit.slotOf Z "com/example/benchwire/benchwire/protocol/hl7/Hl7Message$Type" "code" "Ljava/lang/String;" := slot_ne (Or.inr (hw _ (List.mem_of_getElem? (i := 51) rfl))) (Or.inr (hw _ (List.mem_of_getElem? (i := 49) rfl))) (by decide) (t := (.object "java/lang/String")) (t' := (.object "java/lang/String")) (by decide) (by decide)
  refine s_aload_n w (hb hby dty_9) rfl rfl (pc' := 10) rfl ?_
  refine s_aload_n w (hb hby dty_10) rfl rfl (pc' := 11) rfl ?_
  refine w_putF w (hw _ (List.mem_of_getElem? (i := 50) rfl)) Via.refl (F_2.other W1 (Or.inr sn)) X1 (Or.inr ⟨(hw _ (List.mem_of_getElem? (i := 51) rfl)), rfl, hnm⟩) (hw _ (List.mem_of_getElem? (i := 1) rfl)) (ty := (.object "java/lang/String")) (by decide) rfl rfl (hb hby dty_11) (Or.inl (List.mem_singleton.mpr rfl)) (Or.inl ⟨by decide, by decide⟩) (pc' := 14) rfl fun T h2 w W2 F2 X2 => ?_
  exact w_return w hEL hs hlk hret (hb hby dty_14) (by decide) (by decide) ⟨rfl, X2, F1.other W2 (Or.inr sn.symm), F2⟩
theorem strNot {Z : State} {a0 : Array Value} {K : String} {n : Nat} (wi : (Jvm.Cond.instantiable K n).before a0 Z = true) (w1 : (Jvm.Cond.superclass ST "java/lang/Object").before a0 Z = true) (w2 : (Jvm.Cond.noSuperclass "java/lang/Object").before a0 Z = true) (n1 : "java/lang/String" ≠ K) (n2 : "java/lang/Object" ≠ K) :
    ∃ c t, Z.vm.findClass ST = some c ∧ Z.vm.findClass K = some t ∧ Z.vm.assignable c t = false := by
  obtain ⟨t, kt, g1, g2, g3, g4, -⟩ := Cond.instantiable_spec wi
  obtain ⟨o, ko, o1, o2, o3, -, -⟩ := Cond.noSuperclass_spec w2
  obtain ⟨c, h0⟩ := found_sup w1
  obtain ⟨o', k, kp, h1, h2, h3, h4, h5, -, h7⟩ := Cond.superclass_spec h0 w1
  cases o1.symm.trans h1
  have ne1 := ids_ne h0 g1 n1
  have ne2 := ids_ne o1 g1 n2
  have gi : kt.isInterface = false := by
    cases q : kt.isInterface
    · rfl
    · rw [q] at g4; simp at g4
  have so : ∀ fuel, Z.vm.isSubclassAux fuel o t = false := fun fuel => by
    cases fuel with
    | zero => rfl
    | succ f => simp [Vm.isSubclassAux, ne2, o2, o3]
  have sc : ∀ fuel, Z.vm.isSubclassAux fuel c t = false := fun fuel => by
    cases fuel with
    | zero => rfl
    | succ f => simp [Vm.isSubclassAux, ne1, h2, h4, so]
  refine ⟨c, t, h0, g1, ?_⟩
  show Z.vm.assignableAux (255 + 1) c t = false
  simp [Vm.assignableAux, ne1, h2, g2, h5, g3, gi, Vm.isSubclass, sc]
theorem deq_0 : decode prog_102_method_2_code 0 = .ok (.aload_n 1, 1) := by decide +kernel
theorem deq_1 : decode prog_102_method_2_code 1 = .ok (.instanceof 8, 3) := by decide +kernel
theorem deq_4 : decode prog_102_method_2_code 4 = .ok (.ifCond .eq 40, 3) := by decide +kernel
theorem deq_7 : decode prog_102_method_2_code 7 = .ok (.aload_n 1, 1) := by decide +kernel
theorem deq_8 : decode prog_102_method_2_code 8 = .ok (.checkcast 8, 3) := by decide +kernel
theorem deq_11 : decode prog_102_method_2_code 11 = .ok (.astore_n 2, 1) := by decide +kernel
theorem deq_12 : decode prog_102_method_2_code 12 = .ok (.aload_n 0, 1) := by decide +kernel
theorem deq_13 : decode prog_102_method_2_code 13 = .ok (.getfield 7, 3) := by decide +kernel
theorem deq_16 : decode prog_102_method_2_code 16 = .ok (.aload_n 2, 1) := by decide +kernel
theorem deq_17 : decode prog_102_method_2_code 17 = .ok (.getfield 7, 3) := by decide +kernel
theorem deq_20 : decode prog_102_method_2_code 20 = .ok (.invokevirtual 16, 3) := by decide +kernel
theorem deq_23 : decode prog_102_method_2_code 23 = .ok (.ifCond .eq 21, 3) := by decide +kernel
theorem deq_26 : decode prog_102_method_2_code 26 = .ok (.aload_n 0, 1) := by decide +kernel
theorem deq_27 : decode prog_102_method_2_code 27 = .ok (.getfield 13, 3) := by decide +kernel
theorem deq_30 : decode prog_102_method_2_code 30 = .ok (.aload_n 2, 1) := by decide +kernel
theorem deq_31 : decode prog_102_method_2_code 31 = .ok (.getfield 13, 3) := by decide +kernel
theorem deq_34 : decode prog_102_method_2_code 34 = .ok (.invokevirtual 16, 3) := by decide +kernel
theorem deq_37 : decode prog_102_method_2_code 37 = .ok (.ifCond .eq 7, 3) := by decide +kernel
theorem deq_40 : decode prog_102_method_2_code 40 = .ok (.iconst 1, 1) := by decide +kernel
theorem deq_41 : decode prog_102_method_2_code 41 = .ok (.goto 4, 3) := by decide +kernel
theorem deq_44 : decode prog_102_method_2_code 44 = .ok (.iconst 0, 1) := by decide +kernel
theorem deq_45 : decode prog_102_method_2_code 45 = .ok (.ireturn, 1) := by decide +kernel
theorem ef_eqN (m : MethodId) (a : Addr) : entryFrame m #[.ref a, .null] 3 = mkF m 0 #[.val (.ref a), .val (.null), .unset] [] := by first | (simp [entryFrame, mkF, argsToLocals, Value.category]; done) | rfl
set_option maxRecDepth 65536 in
set_option maxHeartbeats 40000000 in
theorem rm_eqN {l : Launch} {Z : State} {a0 : Array Value} {zc : Int32}  (G : Gl Z a0 zc ) (h : Heap) (a : Addr)  :
    Met l Z consts_1 (⟨"com/example/benchwire/benchwire/protocol/hl7/Hl7Message$Type", "equals", "(Ljava/lang/Object;)Z"⟩ : MethodName) prog_102_method_2_code 3 (some .boolean) ({ frames := 0, cells := 0, slots := 0, locals := 0 } : Room) #[.ref a, .null] h [] [] (fun v h' => v = some (.int 0) ∧ h = h') := by
  have G0 := G
  obtain ⟨hw, hEL, SC, hz⟩ := G
  have hw1 : ∀ d ∈ StrChars.Road.words, d.before a0 Z = true := fun d q => hw d (sub1 d q)
  have hwA : ∀ d ∈ Bundle.stringAtoms, d.before a0 Z = true := fun d q => hw d (subA d q)
  have hw2 : ∀ d ∈ wordsS, d.before a0 Z = true := fun d q => hw d (sub2 d q)
  have hwE : ∀ d ∈ StrChars.Road.wordsEq, d.before a0 Z = true := fun d q => hw d (subE d q)
  refine Met.of (plainFor_of_name pn_2) ?_
  intro p e s m below meth c T hnm hret hlk hby hml hs w
  have hZ0 := w.old
  refine Run.cast (ef_eqN m a) ?_
  refine s_aload_n w (hb hby deq_0) rfl rfl (pc' := 1) rfl ?_
  refine w_instNull w (hb hby deq_1) (pc' := 4) rfl ?_
  refine s_if_eq w (hb hby deq_4) (by decide) (pc1 := 7) rfl (pc2 := 44) rfl (fun q => absurd q (by decide)) (fun _ => ?_)
  refine s_iconst w (hb hby deq_44) (v := 0) rfl (pc' := 45) rfl ?_
  exact w_ireturn w hEL hs hlk hret rfl (Or.inr (Or.inl rfl)) (hb hby deq_45) (by decide) (by decide) ⟨rfl, rfl⟩
theorem ef_eqS (m : MethodId) (a : Addr) (y : Addr) : entryFrame m #[.ref a, .ref y] 3 = mkF m 0 #[.val (.ref a), .val (.ref y), .unset] [] := by first | (simp [entryFrame, mkF, argsToLocals, Value.category]; done) | rfl
set_option maxRecDepth 65536 in
set_option maxHeartbeats 40000000 in
theorem rm_eqS {l : Launch} {Z : State} {a0 : Array Value} {zc : Int32}  (G : Gl Z a0 zc ) (h : Heap) (a : Addr) (y : Addr) (ds : List Int32) (Sy : Str Z h y ds) :
    Met l Z consts_1 (⟨"com/example/benchwire/benchwire/protocol/hl7/Hl7Message$Type", "equals", "(Ljava/lang/Object;)Z"⟩ : MethodName) prog_102_method_2_code 3 (some .boolean) ({ frames := 0, cells := 0, slots := 0, locals := 0 } : Room) #[.ref a, .ref y] h [] [] (fun v h' => v = some (.int 0) ∧ h = h') := by
  have G0 := G
  obtain ⟨hw, hEL, SC, hz⟩ := G
  have hw1 : ∀ d ∈ StrChars.Road.words, d.before a0 Z = true := fun d q => hw d (sub1 d q)
  have hwA : ∀ d ∈ Bundle.stringAtoms, d.before a0 Z = true := fun d q => hw d (subA d q)
  have hw2 : ∀ d ∈ wordsS, d.before a0 Z = true := fun d q => hw d (sub2 d q)
  have hwE : ∀ d ∈ StrChars.Road.wordsEq, d.before a0 Z = true := fun d q => hw d (subE d q)
  refine Met.of (plainFor_of_name pn_2) ?_
  intro p e s m below meth c T hnm hret hlk hby hml hs w
  have hZ0 := w.old
  refine Run.cast (ef_eqS m a y) ?_
  refine s_aload_n w (hb hby deq_0) rfl rfl (pc' := 1) rfl ?_
  refine w_instNo w (hw _ (List.mem_of_getElem? (i := 60) rfl)) Sy.1 (strNot (hw _ (List.mem_of_getElem? (i := 1) rfl)) (hw _ (List.mem_of_getElem? (i := 76) rfl)) (hw _ (List.mem_of_getElem? (i := 77) rfl)) (by decide) (by decide)) (hb hby deq_1) (pc' := 4) rfl fun T w => ?_
  refine s_if_eq w (hb hby deq_4) (by decide) (pc1 := 7) rfl (pc2 := 44) rfl (fun q => absurd q (by decide)) (fun _ => ?_)
  refine s_iconst w (hb hby deq_44) (v := 0) rfl (pc' := 45) rfl ?_
  exact w_ireturn w hEL hs hlk hret rfl (Or.inr (Or.inl rfl)) (hb hby deq_45) (by decide) (by decide) ⟨rfl, rfl⟩
theorem ef_eq (m : MethodId) (a : Addr) (y : Addr) : entryFrame m #[.ref a, .ref y] 3 = mkF m 0 #[.val (.ref a), .val (.ref y), .unset] [] := by first | (simp [entryFrame, mkF, argsToLocals, Value.category]; done) | rfl
set_option maxRecDepth 65536 in
set_option maxHeartbeats 40000000 in
theorem rm_eq {l : Launch} {Z : State} {a0 : Array Value} {zc : Int32}  (G : Gl Z a0 zc ) (h : Heap) (a : Addr) (y : Addr) (s1 s2 t1 t2 : Addr) (c1 c2 d1 d2 : List Int32) (Ey : Exa Z h y TY) (Fa1 : Fld Z h a TY "code" SD (.ref s1)) (Fa2 : Fld Z h a TY "event" SD (.ref s2)) (Fy1 : Fld Z h y TY "code" SD (.ref t1)) (Fy2 : Fld Z h y TY "event" SD (.ref t2)) (S1 : Str Z h s1 c1) (S2 : Str Z h s2 c2) (U1 : Str Z h t1 d1) (U2 : Str Z h t2 d2) :
    Met l Z consts_1 (⟨"com/example/benchwire/benchwire/protocol/hl7/Hl7Message$Type", "equals", "(Ljava/lang/Object;)Z"⟩ : MethodName) prog_102_method_2_code 3 (some .boolean) ({ frames := 2, cells := 0, slots := 0, locals := 28 } : Room) #[.ref a, .ref y] h [] [] (fun v h' => v = some (.int (if c1 = d1 ∧ c2 = d2 then 1 else 0)) ∧ h = h') := by
  have G0 := G
  obtain ⟨hw, hEL, SC, hz⟩ := G
  have hw1 : ∀ d ∈ StrChars.Road.words, d.before a0 Z = true := fun d q => hw d (sub1 d q)
  have hwA : ∀ d ∈ Bundle.stringAtoms, d.before a0 Z = true := fun d q => hw d (subA d q)
  have hw2 : ∀ d ∈ wordsS, d.before a0 Z = true := fun d q => hw d (sub2 d q)
  have hwE : ∀ d ∈ StrChars.Road.wordsEq, d.before a0 Z = true := fun d q => hw d (subE d q)
  refine Met.of (plainFor_of_name pn_2) ?_
  intro p e s m below meth c T hnm hret hlk hby hml hs w
  have hZ0 := w.old
  refine Run.cast (ef_eq m a y) ?_
  refine s_aload_n w (hb hby deq_0) rfl rfl (pc' := 1) rfl ?_
  refine w_inst w (hw _ (List.mem_of_getElem? (i := 60) rfl)) (Ins.self Ey) (hb hby deq_1) (pc' := 4) rfl fun T w => ?_
  refine s_if_eq w (hb hby deq_4) (by decide) (pc1 := 7) rfl (pc2 := 44) rfl (fun _ => ?_) (fun q => absurd q (by decide))
  refine s_aload_n w (hb hby deq_7) rfl rfl (pc' := 8) rfl ?_
  refine w_cast w (hw _ (List.mem_of_getElem? (i := 60) rfl)) (Ins.self Ey) (hb hby deq_8) (pc' := 11) rfl fun T w => ?_
  refine s_astore_n w #[.val (.ref a), .val (.ref y), .val (.ref y)] (hb hby deq_11) rfl rfl (pc' := 12) rfl ?_
  refine s_aload_n w (hb hby deq_12) rfl rfl (pc' := 13) rfl ?_
  refine w_getF w (hw _ (List.mem_of_getElem? (i := 48) rfl)) Via.refl Fa1 (hb hby deq_13) (pc' := 16) rfl fun T w => ?_
  refine s_aload_n w (hb hby deq_16) rfl rfl (pc' := 17) rfl ?_
  refine w_getF w (hw _ (List.mem_of_getElem? (i := 48) rfl)) Via.refl Fy1 (hb hby deq_17) (pc' := 20) rfl fun T w => ?_
  refine w_strEq w hwE (hw _ (List.mem_of_getElem? (i := 11) rfl)) (hw _ (List.mem_of_getElem? (i := 62) rfl)) (hw _ (List.mem_of_getElem? (i := 63) rfl)) (hw _ (List.mem_of_getElem? (i := 65) rfl)) (hw _ (List.mem_of_getElem? (i := 64) rfl)) S1 U1 SC hz (hb hby deq_20) (by rw [hml]; rfl) (W := 0) (Nat.le_of_eq rfl) (by decide) (by decide) (by decide) (by decide) (pc' := 23) rfl fun T z2 w hz3 => ?_
  refine s_if_eq w (hb hby deq_23) (by decide) (pc1 := 26) rfl (pc2 := 44) rfl (fun ct4 => ?_) (fun ct4 => ?_)
  · -- ¬ (z2 = 0)
    refine s_aload_n w (hb hby deq_26) rfl rfl (pc' := 27) rfl ?_
    refine w_getF w (hw _ (List.mem_of_getElem? (i := 50) rfl)) Via.refl Fa2 (hb hby deq_27) (pc' := 30) rfl fun T w => ?_
    refine s_aload_n w (hb hby deq_30) rfl rfl (pc' := 31) rfl ?_
    refine w_getF w (hw _ (List.mem_of_getElem? (i := 50) rfl)) Via.refl Fy2 (hb hby deq_31) (pc' := 34) rfl fun T w => ?_
    refine w_strEq w hwE (hw _ (List.mem_of_getElem? (i := 11) rfl)) (hw _ (List.mem_of_getElem? (i := 62) rfl)) (hw _ (List.mem_of_getElem? (i := 63) rfl)) (hw _ (List.mem_of_getElem? (i := 65) rfl)) (hw _ (List.mem_of_getElem? (i := 64) rfl)) S2 U2 SC hz (hb hby deq_34) (by rw [hml]; rfl) (W := 0) (Nat.le_of_eq rfl) (by decide) (by decide) (by decide) (by decide) (pc' := 37) rfl fun T z5 w hz6 => ?_
    refine s_if_eq w (hb hby deq_37) (by decide) (pc1 := 40) rfl (pc2 := 44) rfl (fun ct7 => ?_) (fun ct7 => ?_)
    · -- ¬ (z5 = 0)
      refine s_iconst w (hb hby deq_40) (v := 1) rfl (pc' := 41) rfl ?_
      refine s_goto w (hb hby deq_41) (by decide) (pc' := 45) rfl ?_
      refine w_ireturn w hEL hs hlk hret rfl (Or.inr (Or.inl rfl)) (hb hby deq_45) (by decide) (by decide) ⟨?_, rfl⟩
      have e_z2 := hz3.elim (fun q => q.2) (fun q => absurd q.1 ct4)
      have e_z5 := hz6.elim (fun q => q.2) (fun q => absurd q.1 ct7)
      rw [if_pos ⟨e_z2, e_z5⟩]
    · -- z5 = 0
      refine s_iconst w (hb hby deq_44) (v := 0) rfl (pc' := 45) rfl ?_
      refine w_ireturn w hEL hs hlk hret rfl (Or.inr (Or.inl rfl)) (hb hby deq_45) (by decide) (by decide) ⟨?_, rfl⟩
      have e_z5 := hz6.elim (fun q => absurd (q.1.symm.trans ct7) (by decide)) (fun q => q.2)
      rw [if_neg fun q => e_z5 q.2]
  · -- z2 = 0
    refine s_iconst w (hb hby deq_44) (v := 0) rfl (pc' := 45) rfl ?_
    refine w_ireturn w hEL hs hlk hret rfl (Or.inr (Or.inl rfl)) (hb hby deq_45) (by decide) (by decide) ⟨?_, rfl⟩
    have e_z2 := hz3.elim (fun q => absurd (q.1.symm.trans ct4) (by decide)) (fun q => q.2)
    rw [if_neg fun q => e_z2 q.1]
theorem if_sym {a b c d : List Int32} : (if a = b ∧ c = d then (1 : Int32) else 0) = if b = a ∧ d = c then 1 else 0 := by
  by_cases h : a = b ∧ c = d
  · rw [if_pos h, if_pos ⟨h.1.symm, h.2.symm⟩]
  · rw [if_neg h, if_neg fun q => h ⟨q.1.symm, q.2.symm⟩]
theorem Str.keepO {Z : State} {a0 : Array Value} {h h' : Heap} {x y : Addr} {cs : List Int32} {C : String} {n : Nat} (F : Str Z h y cs) (K : Keep h h' [x]) (E : Exa Z h x C) (hC : C ≠ "java/lang/String") (wi : (Jvm.Cond.instantiable C n).before a0 Z = true) : Str Z h' y cs := by
  obtain ⟨a, t, kb, cd, N2, vs, q1, q2, q3, q4⟩ := F
  have n1 : y ∉ [x] := ninS (ne_exa E a hC).symm nin0
  have n2 : t ∉ [x] := ninS (Exa.neArv E q3 wi).symm nin0
  exact ⟨a.keep K, t, kb, cd, N2, vs, q1.keep K n1, q2.keep K n1, q3.keep K n2, q4⟩
theorem ef_law (m : MethodId) (p0 : Int64) (p1 : Int64) (p2 : Int64) (p3 : Int64) (p4 : Int32) : entryFrame m #[.long p0, .long p1, .long p2, .long p3, .int p4] maxLocals = mkF m 0 #[.val (.long p0), .second, .val (.long p1), .second, .val (.long p2), .second, .val (.long p3), .second, .val (.int p4), .unset, .unset, .unset, .unset, .unset, .unset, .unset, .unset, .unset, .unset, .unset] [] := by first | (simp [entryFrame, mkF, argsToLocals, Value.category, maxLocals]; done) | rfl
set_option maxRecDepth 65536 in
set_option maxHeartbeats 40000000 in
theorem rm_law {l : Launch} {Z : State} {a0 : Array Value} {zc : Int32}  (G : Gl Z a0 zc ) (h : Heap) (p0 : Int64) (p1 : Int64) (p2 : Int64) (p3 : Int64) (p4 : Int32)  :
    Met l Z consts_1 x code maxLocals ret room_1 #[.long p0, .long p1, .long p2, .long p3, .int p4] h [] [] (fun v h' => v = some (.int 1)) := by
  have G0 := G
  obtain ⟨hw, hEL, SC, hz⟩ := G
  have hw1 : ∀ d ∈ StrChars.Road.words, d.before a0 Z = true := fun d q => hw d (sub1 d q)
  have hwA : ∀ d ∈ Bundle.stringAtoms, d.before a0 Z = true := fun d q => hw d (subA d q)
  have hw2 : ∀ d ∈ wordsS, d.before a0 Z = true := fun d q => hw d (sub2 d q)
  have hwE : ∀ d ∈ StrChars.Road.wordsEq, d.before a0 Z = true := fun d q => hw d (subE d q)
  refine Met.of (plainFor_of_name pn_0) ?_
  intro p e s m below meth c T hnm hret hlk hby hml hs w
  have hZ0 := w.old
  refine Run.cast (ef_law m p0 p1 p2 p3 p4) ?_
  refine s_iload w (hb hby at_0) rfl (pc' := 2) rfl ?_
  refine s_iconst w (hb hby at_2) (v := 2) rfl (pc' := 3) rfl ?_
  refine s_iushr w (hb hby at_3) (pc' := 4) rfl ?_
  refine s_iconst w (hb hby at_4) (v := 1) rfl (pc' := 5) rfl ?_
  refine s_iand w (hb hby at_5) (pc' := 6) rfl ?_
  refine Run.join (α := Int64) (C := fun _ => True) (F := fun cc => (mkF m 15 #[.val (.long p0), .second, .val (.long p1), .second, .val (.long p2), .second, .val (.long p3), .second, .val (.int p4), .unset, .unset, .unset, .unset, .unset, .unset, .unset, .unset, .unset, .unset, .unset] [.long cc])) (fun cc _ => ?_) (fun J => ?_)
  · show Run p e below _ T (mkF m 15 #[.val (.long p0), .second, .val (.long p1), .second, .val (.long p2), .second, .val (.long p3), .second, .val (.int p4), .unset, .unset, .unset, .unset, .unset, .unset, .unset, .unset, .unset, .unset, .unset] [.long cc])
    refine s_lstore w #[.val (.long p0), .second, .val (.long p1), .second, .val (.long p2), .second, .val (.long p3), .second, .val (.int p4), .val (.long cc), .second, .unset, .unset, .unset, .unset, .unset, .unset, .unset, .unset, .unset] (hb hby at_15) rfl (pc' := 17) rfl ?_
    refine s_iload w (hb hby at_17) rfl (pc' := 19) rfl ?_
    refine s_iconst w (hb hby at_19) (v := 3) rfl (pc' := 20) rfl ?_
    refine s_iushr w (hb hby at_20) (pc' := 21) rfl ?_
    refine s_iconst w (hb hby at_21) (v := 1) rfl (pc' := 22) rfl ?_
    refine s_iand w (hb hby at_22) (pc' := 23) rfl ?_
    refine Run.join (α := Int64) (C := fun _ => True) (F := fun ee => (mkF m 32 #[.val (.long p0), .second, .val (.long p1), .second, .val (.long p2), .second, .val (.long p3), .second, .val (.int p4), .val (.long cc), .second, .unset, .unset, .unset, .unset, .unset, .unset, .unset, .unset, .unset] [.long ee])) (fun ee _ => ?_) (fun J => ?_)
    · show Run p e below _ T (mkF m 32 #[.val (.long p0), .second, .val (.long p1), .second, .val (.long p2), .second, .val (.long p3), .second, .val (.int p4), .val (.long cc), .second, .unset, .unset, .unset, .unset, .unset, .unset, .unset, .unset, .unset] [.long ee])
      refine s_lstore w #[.val (.long p0), .second, .val (.long p1), .second, .val (.long p2), .second, .val (.long p3), .second, .val (.int p4), .val (.long cc), .second, .val (.long ee), .second, .unset, .unset, .unset, .unset, .unset, .unset, .unset] (hb hby at_32) rfl (pc' := 34) rfl ?_
      refine w_new w (hw _ (List.mem_of_getElem? (i := 0) rfl)) (hw _ (List.mem_of_getElem? (i := 1) rfl)) (hw _ (List.mem_of_getElem? (i := 2) rfl)) (hb hby at_34) (pc' := 37) rfl (by decide) (by decide) fun T h1 x2 w E3 q4 r5 A6 D7 => ?_
      have F_code_x2 : Fld Z h1 x2 "com/example/benchwire/benchwire/protocol/hl7/Hl7Message$Type" "code" "Ljava/lang/String;" (.null) := D7 (Or.inr (hw _ (List.mem_of_getElem? (i := 49) rfl))) (ty := (.object "java/lang/String")) (by decide)
      have F_event_x2 : Fld Z h1 x2 "com/example/benchwire/benchwire/protocol/hl7/Hl7Message$Type" "event" "Ljava/lang/String;" (.null) := D7 (Or.inr (hw _ (List.mem_of_getElem? (i := 51) rfl))) (ty := (.object "java/lang/String")) (by decide)
      refine s_dup w (hb hby at_37) rfl (pc' := 38) rfl ?_
      refine s_lload_n w (hb hby at_38) rfl (pc' := 39) rfl ?_
      refine w_static w hEL (y := (⟨"com/example/benchwire/benchwire/protocol/hl7/TypeEqualsPinLaw", "str", "(J)Ljava/lang/String;"⟩ : MethodName)) (hw _ (List.mem_of_getElem? (i := 3) rfl)) (hw _ (List.mem_of_getElem? (i := 4) rfl)) (hw _ (List.mem_of_getElem? (i := 5) rfl)) (hw _ (List.mem_of_getElem? (i := 6) rfl)) (by decide) (rm_str G0 h1 p0) all0 all0 (argsL := [.long p0]) (rest := [.ref x2, .ref x2]) (lenOf (by decide +kernel : parseMethodDescriptor "(J)Ljava/lang/String;" = some ⟨[.long], (some (.object "java/lang/String"))⟩) rfl) rfl rfl (hb hby at_39) (by rw [hml]; rfl) (W := 2) (Nat.le_of_eq rfl) (by decide) (by decide) (by decide) (by decide) (pc' := 42) rfl fun u8 T h9 w K10 P11 => ?_
      obtain ⟨s12, rfl, F13⟩ := P11
      have E14 := Keep.ext0 K10
      show Run p e below _ T (mkF m 42 #[.val (.long p0), .second, .val (.long p1), .second, .val (.long p2), .second, .val (.long p3), .second, .val (.int p4), .val (.long cc), .second, .val (.long ee), .second, .unset, .unset, .unset, .unset, .unset, .unset, .unset] [.ref s12, .ref x2, .ref x2])
      refine s_lload_n w (hb hby at_42) rfl (pc' := 43) rfl ?_
      refine w_static w hEL (y := (⟨"com/example/benchwire/benchwire/protocol/hl7/TypeEqualsPinLaw", "str", "(J)Ljava/lang/String;"⟩ : MethodName)) (hw _ (List.mem_of_getElem? (i := 3) rfl)) (hw _ (List.mem_of_getElem? (i := 4) rfl)) (hw _ (List.mem_of_getElem? (i := 5) rfl)) (hw _ (List.mem_of_getElem? (i := 6) rfl)) (by decide) (rm_str G0 h9 p1) all0 all0 (argsL := [.long p1]) (rest := [.ref s12, .ref x2, .ref x2]) (lenOf (by decide +kernel : parseMethodDescriptor "(J)Ljava/lang/String;" = some ⟨[.long], (some (.object "java/lang/String"))⟩) rfl) rfl rfl (hb hby at_43) (by rw [hml]; rfl) (W := 3) (Nat.le_of_eq rfl) (by decide) (by decide) (by decide) (by decide) (pc' := 46) rfl fun u15 T h16 w K17 P18 => ?_
      obtain ⟨s19, rfl, F20⟩ := P18
      have E21 := Keep.ext0 K17
      show Run p e below _ T (mkF m 46 #[.val (.long p0), .second, .val (.long p1), .second, .val (.long p2), .second, .val (.long p3), .second, .val (.int p4), .val (.long cc), .second, .val (.long ee), .second, .unset, .unset, .unset, .unset, .unset, .unset, .unset] [.ref s19, .ref s12, .ref x2, .ref x2])
      refine w_special w hEL (y := (⟨"com/example/benchwire/benchwire/protocol/hl7/Hl7Message$Type", "<init>", "(Ljava/lang/String;Ljava/lang/String;)V"⟩ : MethodName)) (a := x2) rfl (hw _ (List.mem_of_getElem? (i := 39) rfl)) (hw _ (List.mem_of_getElem? (i := 40) rfl)) (hw _ (List.mem_of_getElem? (i := 2) rfl)) (hw _ (List.mem_of_getElem? (i := 41) rfl)) (by decide) (rm_ty G0 h16 x2 s12 s19 _ _ ((A6.ext E14).ext E21) ((F_code_x2.ext E14).ext E21) ((F_event_x2.ext E14).ext E21)) all0 (allS (Or.inr r5) all0) (argsL := [.ref s12, .ref s19]) (rest := [.ref x2]) (lenOf (by decide +kernel : parseMethodDescriptor "(Ljava/lang/String;Ljava/lang/String;)V" = some ⟨[(.object "java/lang/String"), (.object "java/lang/String")], none⟩) rfl) rfl rfl (hb hby at_46) (by rw [hml]; rfl) (W := 1) (Nat.le_of_eq rfl) (by decide) (by decide) (by decide) (by decide) (pc' := 49) rfl fun u22 T h23 w K24 P25 => ?_
      obtain ⟨rfl, A26, F27, F28⟩ := P25
      have F29 := Str.keepO (F13.ext E21) K24 ((A6.ext E14).ext E21) (by decide) (hw _ (List.mem_of_getElem? (i := 1) rfl))
      have F30 := Str.keepO F20 K24 ((A6.ext E14).ext E21) (by decide) (hw _ (List.mem_of_getElem? (i := 1) rfl))
      have E31 := Ext.kp (Ext.tr (Ext.tr E3 E14) E21) K24 (allS q4 all0)
      show Run p e below _ T (mkF m 49 #[.val (.long p0), .second, .val (.long p1), .second, .val (.long p2), .second, .val (.long p3), .second, .val (.int p4), .val (.long cc), .second, .val (.long ee), .second, .unset, .unset, .unset, .unset, .unset, .unset, .unset] [.ref x2])
      refine s_astore w #[.val (.long p0), .second, .val (.long p1), .second, .val (.long p2), .second, .val (.long p3), .second, .val (.int p4), .val (.long cc), .second, .val (.long ee), .second, .val (.ref x2), .unset, .unset, .unset, .unset, .unset, .unset] (hb hby at_49) rfl rfl (pc' := 51) rfl ?_
      refine w_new w (hw _ (List.mem_of_getElem? (i := 0) rfl)) (hw _ (List.mem_of_getElem? (i := 1) rfl)) (hw _ (List.mem_of_getElem? (i := 2) rfl)) (hb hby at_51) (pc' := 54) rfl (by decide) (by decide) fun T h32 x33 w E34 q35 r36 A37 D38 => ?_
      have F_code_x33 : Fld Z h32 x33 "com/example/benchwire/benchwire/protocol/hl7/Hl7Message$Type" "code" "Ljava/lang/String;" (.null) := D38 (Or.inr (hw _ (List.mem_of_getElem? (i := 49) rfl))) (ty := (.object "java/lang/String")) (by decide)
      have F_event_x33 : Fld Z h32 x33 "com/example/benchwire/benchwire/protocol/hl7/Hl7Message$Type" "event" "Ljava/lang/String;" (.null) := D38 (Or.inr (hw _ (List.mem_of_getElem? (i := 51) rfl))) (ty := (.object "java/lang/String")) (by decide)
      refine s_dup w (hb hby at_54) rfl (pc' := 55) rfl ?_
      refine s_lload w (hb hby at_55) rfl (pc' := 57) rfl ?_
      refine w_static w hEL (y := (⟨"com/example/benchwire/benchwire/protocol/hl7/TypeEqualsPinLaw", "str", "(J)Ljava/lang/String;"⟩ : MethodName)) (hw _ (List.mem_of_getElem? (i := 3) rfl)) (hw _ (List.mem_of_getElem? (i := 4) rfl)) (hw _ (List.mem_of_getElem? (i := 5) rfl)) (hw _ (List.mem_of_getElem? (i := 6) rfl)) (by decide) (rm_str G0 h32 cc) all0 all0 (argsL := [.long cc]) (rest := [.ref x33, .ref x33]) (lenOf (by decide +kernel : parseMethodDescriptor "(J)Ljava/lang/String;" = some ⟨[.long], (some (.object "java/lang/String"))⟩) rfl) rfl rfl (hb hby at_57) (by rw [hml]; rfl) (W := 2) (Nat.le_of_eq rfl) (by decide) (by decide) (by decide) (by decide) (pc' := 60) rfl fun u39 T h40 w K41 P42 => ?_
      obtain ⟨s43, rfl, F44⟩ := P42
      have E45 := Keep.ext0 K41
      show Run p e below _ T (mkF m 60 #[.val (.long p0), .second, .val (.long p1), .second, .val (.long p2), .second, .val (.long p3), .second, .val (.int p4), .val (.long cc), .second, .val (.long ee), .second, .val (.ref x2), .unset, .unset, .unset, .unset, .unset, .unset] [.ref s43, .ref x33, .ref x33])
      refine s_lload w (hb hby at_60) rfl (pc' := 62) rfl ?_
      refine w_static w hEL (y := (⟨"com/example/benchwire/benchwire/protocol/hl7/TypeEqualsPinLaw", "str", "(J)Ljava/lang/String;"⟩ : MethodName)) (hw _ (List.mem_of_getElem? (i := 3) rfl)) (hw _ (List.mem_of_getElem? (i := 4) rfl)) (hw _ (List.mem_of_getElem? (i := 5) rfl)) (hw _ (List.mem_of_getElem? (i := 6) rfl)) (by decide) (rm_str G0 h40 ee) all0 all0 (argsL := [.long ee]) (rest := [.ref s43, .ref x33, .ref x33]) (lenOf (by decide +kernel : parseMethodDescriptor "(J)Ljava/lang/String;" = some ⟨[.long], (some (.object "java/lang/String"))⟩) rfl) rfl rfl (hb hby at_62) (by rw [hml]; rfl) (W := 3) (Nat.le_of_eq rfl) (by decide) (by decide) (by decide) (by decide) (pc' := 65) rfl fun u46 T h47 w K48 P49 => ?_
      obtain ⟨s50, rfl, F51⟩ := P49
      have E52 := Keep.ext0 K48
      show Run p e below _ T (mkF m 65 #[.val (.long p0), .second, .val (.long p1), .second, .val (.long p2), .second, .val (.long p3), .second, .val (.int p4), .val (.long cc), .second, .val (.long ee), .second, .val (.ref x2), .unset, .unset, .unset, .unset, .unset, .unset] [.ref s50, .ref s43, .ref x33, .ref x33])
      refine w_special w hEL (y := (⟨"com/example/benchwire/benchwire/protocol/hl7/Hl7Message$Type", "<init>", "(Ljava/lang/String;Ljava/lang/String;)V"⟩ : MethodName)) (a := x33) rfl (hw _ (List.mem_of_getElem? (i := 39) rfl)) (hw _ (List.mem_of_getElem? (i := 40) rfl)) (hw _ (List.mem_of_getElem? (i := 2) rfl)) (hw _ (List.mem_of_getElem? (i := 41) rfl)) (by decide) (rm_ty G0 h47 x33 s43 s50 _ _ ((A37.ext E45).ext E52) ((F_code_x33.ext E45).ext E52) ((F_event_x33.ext E45).ext E52)) all0 (allS (Or.inr r36) all0) (argsL := [.ref s43, .ref s50]) (rest := [.ref x33]) (lenOf (by decide +kernel : parseMethodDescriptor "(Ljava/lang/String;Ljava/lang/String;)V" = some ⟨[(.object "java/lang/String"), (.object "java/lang/String")], none⟩) rfl) rfl rfl (hb hby at_65) (by rw [hml]; rfl) (W := 1) (Nat.le_of_eq rfl) (by decide) (by decide) (by decide) (by decide) (pc' := 68) rfl fun u53 T h54 w K55 P56 => ?_
      obtain ⟨rfl, A57, F58, F59⟩ := P56
      have F60 := Str.keepO (F44.ext E52) K55 ((A37.ext E45).ext E52) (by decide) (hw _ (List.mem_of_getElem? (i := 1) rfl))
      have F61 := Str.keepO F51 K55 ((A37.ext E45).ext E52) (by decide) (hw _ (List.mem_of_getElem? (i := 1) rfl))
      have E62 := Ext.kp (Ext.tr (Ext.tr E34 E45) E52) K55 (allS q35 all0)
      show Run p e below _ T (mkF m 68 #[.val (.long p0), .second, .val (.long p1), .second, .val (.long p2), .second, .val (.long p3), .second, .val (.int p4), .val (.long cc), .second, .val (.long ee), .second, .val (.ref x2), .unset, .unset, .unset, .unset, .unset, .unset] [.ref x33])
      refine s_astore w #[.val (.long p0), .second, .val (.long p1), .second, .val (.long p2), .second, .val (.long p3), .second, .val (.int p4), .val (.long cc), .second, .val (.long ee), .second, .val (.ref x2), .val (.ref x33), .unset, .unset, .unset, .unset, .unset] (hb hby at_68) rfl rfl (pc' := 70) rfl ?_
      refine s_lload_n w (hb hby at_70) rfl (pc' := 71) rfl ?_
      refine w_static w hEL (y := (⟨"com/example/benchwire/benchwire/protocol/hl7/TypeEqualsPinLaw", "str", "(J)Ljava/lang/String;"⟩ : MethodName)) (hw _ (List.mem_of_getElem? (i := 3) rfl)) (hw _ (List.mem_of_getElem? (i := 4) rfl)) (hw _ (List.mem_of_getElem? (i := 5) rfl)) (hw _ (List.mem_of_getElem? (i := 6) rfl)) (by decide) (rm_str G0 h54 p0) all0 all0 (argsL := [.long p0]) (rest := []) (lenOf (by decide +kernel : parseMethodDescriptor "(J)Ljava/lang/String;" = some ⟨[.long], (some (.object "java/lang/String"))⟩) rfl) rfl rfl (hb hby at_71) (by rw [hml]; rfl) (W := 0) (Nat.le_of_eq rfl) (by decide) (by decide) (by decide) (by decide) (pc' := 74) rfl fun u63 T h64 w K65 P66 => ?_
      obtain ⟨s67, rfl, F68⟩ := P66
      have E69 := Keep.ext0 K65
      show Run p e below _ T (mkF m 74 #[.val (.long p0), .second, .val (.long p1), .second, .val (.long p2), .second, .val (.long p3), .second, .val (.int p4), .val (.long cc), .second, .val (.long ee), .second, .val (.ref x2), .val (.ref x33), .unset, .unset, .unset, .unset, .unset] [.ref s67])
      refine s_astore w #[.val (.long p0), .second, .val (.long p1), .second, .val (.long p2), .second, .val (.long p3), .second, .val (.int p4), .val (.long cc), .second, .val (.long ee), .second, .val (.ref x2), .val (.ref x33), .val (.ref s67), .unset, .unset, .unset, .unset] (hb hby at_74) rfl rfl (pc' := 76) rfl ?_
      refine s_iload w (hb hby at_76) rfl (pc' := 78) rfl ?_
      refine s_iconst w (hb hby at_78) (v := 3) rfl (pc' := 79) rfl ?_
      refine s_iand w (hb hby at_79) (pc' := 80) rfl ?_
      generalize hv70 : ((p4 &&& 3) : Int32) = v70
      refine s_istore w #[.val (.long p0), .second, .val (.long p1), .second, .val (.long p2), .second, .val (.long p3), .second, .val (.int p4), .val (.long cc), .second, .val (.long ee), .second, .val (.ref x2), .val (.ref x33), .val (.ref s67), .val (.int v70), .unset, .unset, .unset] (hb hby at_80) rfl (pc' := 82) rfl ?_
      refine s_iload w (hb hby at_82) rfl (pc' := 84) rfl ?_
      refine s_if_ne w (hb hby at_84) (by decide) (pc1 := 87) rfl (pc2 := 119) rfl (fun ct71 => ?_) (fun ct71 => ?_)
      · skip -- v70 = 0
        refine s_aload w (hb hby at_87) rfl rfl (pc' := 89) rfl ?_
        refine s_astore w #[.val (.long p0), .second, .val (.long p1), .second, .val (.long p2), .second, .val (.long p3), .second, .val (.int p4), .val (.long cc), .second, .val (.long ee), .second, .val (.ref x2), .val (.ref x33), .val (.ref s67), .val (.int v70), .val (.ref x33), .unset, .unset] (hb hby at_89) rfl rfl (pc' := 91) rfl ?_
        refine Run.joinW w (α := Int32) (C := fun eJ => (eJ = 1 ∧ (strJ p0 = strJ cc ∧ strJ p1 = strJ ee)) ∨ (eJ = 0 ∧ ¬ (strJ p0 = strJ cc ∧ strJ p1 = strJ ee))) (F := fun eJ => (mkF m 114 #[.val (.long p0), .second, .val (.long p1), .second, .val (.long p2), .second, .val (.long p3), .second, .val (.int p4), .val (.long cc), .second, .val (.long ee), .second, .val (.ref x2), .val (.ref x33), .val (.ref s67), .val (.int v70), .val (.ref x33), .unset, .unset] [.int eJ])) (fun T eJ w heJ => ?_) (fun J72 => ?_)
        · show Run p e below _ T (mkF m 114 #[.val (.long p0), .second, .val (.long p1), .second, .val (.long p2), .second, .val (.long p3), .second, .val (.int p4), .val (.long cc), .second, .val (.long ee), .second, .val (.ref x2), .val (.ref x33), .val (.ref s67), .val (.int v70), .val (.ref x33), .unset, .unset] [.int eJ])
          refine s_istore w #[.val (.long p0), .second, .val (.long p1), .second, .val (.long p2), .second, .val (.long p3), .second, .val (.int p4), .val (.long cc), .second, .val (.long ee), .second, .val (.ref x2), .val (.ref x33), .val (.ref s67), .val (.int v70), .val (.ref x33), .val (.int eJ), .unset] (hb hby at_114) rfl (pc' := 116) rfl ?_
          refine s_goto w (hb hby at_116) (by decide) (pc' := 157) rfl ?_
          refine s_aload w (hb hby at_157) rfl rfl (pc' := 159) rfl ?_
          refine s_aload w (hb hby at_159) rfl rfl (pc' := 161) rfl ?_
          refine w_virtual w hEL (y := (⟨"com/example/benchwire/benchwire/protocol/hl7/Hl7Message$Type", "equals", "(Ljava/lang/Object;)Z"⟩ : MethodName)) (y' := (⟨"com/example/benchwire/benchwire/protocol/hl7/Hl7Message$Type", "equals", "(Ljava/lang/Object;)Z"⟩ : MethodName)) (C := "com/example/benchwire/benchwire/protocol/hl7/Hl7Message$Type") (a := x2) (hw _ (List.mem_of_getElem? (i := 55) rfl)) (hw _ (List.mem_of_getElem? (i := 56) rfl)) (hw _ (List.mem_of_getElem? (i := 58) rfl)) (hw _ (List.mem_of_getElem? (i := 58) rfl)) (hw _ (List.mem_of_getElem? (i := 57) rfl)) (hw _ (List.mem_of_getElem? (i := 2) rfl)) (hw _ (List.mem_of_getElem? (i := 59) rfl)) (by decide) ((A26.ext E62).ext E69) (rm_eq G0 h64 x2 x33 _ _ _ _ _ _ _ _ (A57.ext E69) ((F27.ext E62).ext E69) ((F28.ext E62).ext E69) (F58.ext E69) (F59.ext E69) ((F29.ext E62).ext E69) ((F30.ext E62).ext E69) (F60.ext E69) (F61.ext E69)) all0 all0 (argsL := [.ref x33]) (rest := []) (lenOf (by decide +kernel : parseMethodDescriptor "(Ljava/lang/Object;)Z" = some ⟨[(.object "java/lang/Object")], (some .boolean)⟩) rfl) rfl rfl (hb hby at_161) (by rw [hml]; rfl) (W := 0) (Nat.le_of_eq rfl) (by decide) (by decide) (by decide) (by decide) (pc' := 164) rfl fun u73 T h74 w K75 P76 => ?_
          obtain ⟨rfl, rfl⟩ := P76
          generalize hz77 : (if strJ p0 = strJ cc ∧ strJ p1 = strJ ee then (1 : Int32) else 0) = z77
          show Run p e below _ T (mkF m 164 #[.val (.long p0), .second, .val (.long p1), .second, .val (.long p2), .second, .val (.long p3), .second, .val (.int p4), .val (.long cc), .second, .val (.long ee), .second, .val (.ref x2), .val (.ref x33), .val (.ref s67), .val (.int v70), .val (.ref x33), .val (.int eJ), .unset] [.int z77])
          refine s_istore w #[.val (.long p0), .second, .val (.long p1), .second, .val (.long p2), .second, .val (.long p3), .second, .val (.int p4), .val (.long cc), .second, .val (.long ee), .second, .val (.ref x2), .val (.ref x33), .val (.ref s67), .val (.int v70), .val (.ref x33), .val (.int eJ), .val (.int z77)] (hb hby at_164) rfl (pc' := 166) rfl ?_
          refine s_iload w (hb hby at_166) rfl (pc' := 168) rfl ?_
          refine s_if_ne w (hb hby at_168) (by decide) (pc1 := 171) rfl (pc2 := 185) rfl (fun _ => ?_) (fun q => absurd ct71 q)
          refine s_aload w (hb hby at_171) rfl rfl (pc' := 173) rfl ?_
          refine s_aload w (hb hby at_173) rfl rfl (pc' := 175) rfl ?_
          refine w_virtual w hEL (y := (⟨"com/example/benchwire/benchwire/protocol/hl7/Hl7Message$Type", "equals", "(Ljava/lang/Object;)Z"⟩ : MethodName)) (y' := (⟨"com/example/benchwire/benchwire/protocol/hl7/Hl7Message$Type", "equals", "(Ljava/lang/Object;)Z"⟩ : MethodName)) (C := "com/example/benchwire/benchwire/protocol/hl7/Hl7Message$Type") (a := x33) (hw _ (List.mem_of_getElem? (i := 55) rfl)) (hw _ (List.mem_of_getElem? (i := 56) rfl)) (hw _ (List.mem_of_getElem? (i := 58) rfl)) (hw _ (List.mem_of_getElem? (i := 58) rfl)) (hw _ (List.mem_of_getElem? (i := 57) rfl)) (hw _ (List.mem_of_getElem? (i := 2) rfl)) (hw _ (List.mem_of_getElem? (i := 59) rfl)) (by decide) (A57.ext E69) (rm_eq G0 h64 x33 x2 _ _ _ _ _ _ _ _ ((A26.ext E62).ext E69) (F58.ext E69) (F59.ext E69) ((F27.ext E62).ext E69) ((F28.ext E62).ext E69) (F60.ext E69) (F61.ext E69) ((F29.ext E62).ext E69) ((F30.ext E62).ext E69)) all0 all0 (argsL := [.ref x2]) (rest := []) (lenOf (by decide +kernel : parseMethodDescriptor "(Ljava/lang/Object;)Z" = some ⟨[(.object "java/lang/Object")], (some .boolean)⟩) rfl) rfl rfl (hb hby at_175) (by rw [hml]; rfl) (W := 0) (Nat.le_of_eq rfl) (by decide) (by decide) (by decide) (by decide) (pc' := 178) rfl fun u78 T h79 w K80 P81 => ?_
          obtain ⟨rfl, rfl⟩ := P81
          generalize hz82 : (if strJ cc = strJ p0 ∧ strJ ee = strJ p1 then (1 : Int32) else 0) = z82
          show Run p e below _ T (mkF m 178 #[.val (.long p0), .second, .val (.long p1), .second, .val (.long p2), .second, .val (.long p3), .second, .val (.int p4), .val (.long cc), .second, .val (.long ee), .second, .val (.ref x2), .val (.ref x33), .val (.ref s67), .val (.int v70), .val (.ref x33), .val (.int eJ), .val (.int z77)] [.int z82])
          refine s_iload w (hb hby at_178) rfl (pc' := 180) rfl ?_
          refine s_icmp_eq w (hb hby at_180) (by decide) (pc1 := 183) rfl (pc2 := 185) rfl (fun ct83 => ?_) (fun ct83 => ?_)
          · -- ¬ (z82 = z77)
            refine s_iconst w (hb hby at_183) (v := 0) rfl (pc' := 184) rfl ?_
            exact absurd (show z82 = z77 by rw [← hz82, ← hz77]; exact if_sym) ct83
          · -- z82 = z77
            refine s_iload w (hb hby at_185) rfl (pc' := 187) rfl ?_
            refine s_iload w (hb hby at_187) rfl (pc' := 189) rfl ?_
            refine s_icmp_ne w (hb hby at_189) (by decide) (pc1 := 192) rfl (pc2 := 196) rfl (fun ct84 => ?_) (fun ct84 => ?_)
            · -- z77 = eJ
              refine s_iconst w (hb hby at_192) (v := 1) rfl (pc' := 193) rfl ?_
              refine s_goto w (hb hby at_193) (by decide) (pc' := 197) rfl ?_
              exact w_ireturn w hEL hs hlk hret rfl (Or.inr (Or.inl rfl)) (hb hby at_197) (by decide) (by decide) rfl
            · -- ¬ (z77 = eJ)
              refine s_iconst w (hb hby at_196) (v := 0) rfl (pc' := 197) rfl ?_
              exact absurd (val heJ hz77 Iff.rfl) ct84
        · skip
          refine s_lload_n w (hb hby at_91) rfl (pc' := 92) rfl ?_
          refine s_lload w (hb hby at_92) rfl (pc' := 94) rfl ?_
          refine w_static w hEL (y := (⟨"com/example/benchwire/benchwire/protocol/hl7/TypeEqualsPinLaw", "same", "(JJ)Z"⟩ : MethodName)) (hw _ (List.mem_of_getElem? (i := 67) rfl)) (hw _ (List.mem_of_getElem? (i := 68) rfl)) (hw _ (List.mem_of_getElem? (i := 5) rfl)) (hw _ (List.mem_of_getElem? (i := 69) rfl)) (by decide) (rm_same G0 h64 p0 cc) all0 all0 (argsL := [.long p0, .long cc]) (rest := []) (lenOf (by decide +kernel : parseMethodDescriptor "(JJ)Z" = some ⟨[.long, .long], (some .boolean)⟩) rfl) rfl rfl (hb hby at_94) (by rw [hml]; rfl) (W := 0) (Nat.le_of_eq rfl) (by decide) (by decide) (by decide) (by decide) (pc' := 97) rfl fun u85 T h86 w K87 P88 => ?_
          obtain ⟨rfl, rfl⟩ := P88
          generalize hz89 : (if strJ p0 = strJ cc then (1 : Int32) else 0) = z89
          show Run p e below _ T (mkF m 97 #[.val (.long p0), .second, .val (.long p1), .second, .val (.long p2), .second, .val (.long p3), .second, .val (.int p4), .val (.long cc), .second, .val (.long ee), .second, .val (.ref x2), .val (.ref x33), .val (.ref s67), .val (.int v70), .val (.ref x33), .unset, .unset] [.int z89])
          refine s_if_eq w (hb hby at_97) (by decide) (pc1 := 100) rfl (pc2 := 113) rfl (fun ct90 => ?_) (fun ct90 => ?_)
          · -- ¬ (z89 = 0)
            refine s_lload_n w (hb hby at_100) rfl (pc' := 101) rfl ?_
            refine s_lload w (hb hby at_101) rfl (pc' := 103) rfl ?_
            refine w_static w hEL (y := (⟨"com/example/benchwire/benchwire/protocol/hl7/TypeEqualsPinLaw", "same", "(JJ)Z"⟩ : MethodName)) (hw _ (List.mem_of_getElem? (i := 67) rfl)) (hw _ (List.mem_of_getElem? (i := 68) rfl)) (hw _ (List.mem_of_getElem? (i := 5) rfl)) (hw _ (List.mem_of_getElem? (i := 69) rfl)) (by decide) (rm_same G0 h64 p1 ee) all0 all0 (argsL := [.long p1, .long ee]) (rest := []) (lenOf (by decide +kernel : parseMethodDescriptor "(JJ)Z" = some ⟨[.long, .long], (some .boolean)⟩) rfl) rfl rfl (hb hby at_103) (by rw [hml]; rfl) (W := 0) (Nat.le_of_eq rfl) (by decide) (by decide) (by decide) (by decide) (pc' := 106) rfl fun u91 T h92 w K93 P94 => ?_
            obtain ⟨rfl, rfl⟩ := P94
            generalize hz95 : (if strJ p1 = strJ ee then (1 : Int32) else 0) = z95
            show Run p e below _ T (mkF m 106 #[.val (.long p0), .second, .val (.long p1), .second, .val (.long p2), .second, .val (.long p3), .second, .val (.int p4), .val (.long cc), .second, .val (.long ee), .second, .val (.ref x2), .val (.ref x33), .val (.ref s67), .val (.int v70), .val (.ref x33), .unset, .unset] [.int z95])
            refine s_if_eq w (hb hby at_106) (by decide) (pc1 := 109) rfl (pc2 := 113) rfl (fun ct96 => ?_) (fun ct96 => ?_)
            · -- ¬ (z95 = 0)
              refine s_iconst w (hb hby at_109) (v := 1) rfl (pc' := 110) rfl ?_
              refine s_goto w (hb hby at_110) (by decide) (pc' := 114) rfl ?_
              exact J72 _ 1 w (Or.inl ⟨rfl, Decidable.byContradiction (fun q => ct90 (by rw [← hz89, if_neg q])), Decidable.byContradiction (fun q => ct96 (by rw [← hz95, if_neg q]))⟩)
            · -- z95 = 0
              refine s_iconst w (hb hby at_113) (v := 0) rfl (pc' := 114) rfl ?_
              exact J72 _ 0 w (Or.inr ⟨rfl, fun q => absurd (show z95 = 0 from ct96) (by rw [← hz95, if_pos q.2]; decide)⟩)
          · -- z89 = 0
            refine s_iconst w (hb hby at_113) (v := 0) rfl (pc' := 114) rfl ?_
            exact J72 _ 0 w (Or.inr ⟨rfl, fun q => absurd (show z89 = 0 from ct90) (by rw [← hz89, if_pos q.1]; decide)⟩)
      · skip -- ¬ (v70 = 0)
        refine s_iload w (hb hby at_119) rfl (pc' := 121) rfl ?_
        refine s_iconst w (hb hby at_121) (v := 1) rfl (pc' := 122) rfl ?_
        refine s_icmp_ne w (hb hby at_122) (by decide) (pc1 := 125) rfl (pc2 := 134) rfl (fun ct97 => ?_) (fun ct97 => ?_)
        · -- v70 = 1
          refine s_anull w (hb hby at_125) (pc' := 126) rfl ?_
          refine s_astore w #[.val (.long p0), .second, .val (.long p1), .second, .val (.long p2), .second, .val (.long p3), .second, .val (.int p4), .val (.long cc), .second, .val (.long ee), .second, .val (.ref x2), .val (.ref x33), .val (.ref s67), .val (.int v70), .val (.null), .unset, .unset] (hb hby at_126) rfl rfl (pc' := 128) rfl ?_
          refine s_iconst w (hb hby at_128) (v := 0) rfl (pc' := 129) rfl ?_
          refine s_istore w #[.val (.long p0), .second, .val (.long p1), .second, .val (.long p2), .second, .val (.long p3), .second, .val (.int p4), .val (.long cc), .second, .val (.long ee), .second, .val (.ref x2), .val (.ref x33), .val (.ref s67), .val (.int v70), .val (.null), .val (.int 0), .unset] (hb hby at_129) rfl (pc' := 131) rfl ?_
          refine s_goto w (hb hby at_131) (by decide) (pc' := 157) rfl ?_
          refine s_aload w (hb hby at_157) rfl rfl (pc' := 159) rfl ?_
          refine s_aload w (hb hby at_159) rfl rfl (pc' := 161) rfl ?_
          refine w_virtual w hEL (y := (⟨"com/example/benchwire/benchwire/protocol/hl7/Hl7Message$Type", "equals", "(Ljava/lang/Object;)Z"⟩ : MethodName)) (y' := (⟨"com/example/benchwire/benchwire/protocol/hl7/Hl7Message$Type", "equals", "(Ljava/lang/Object;)Z"⟩ : MethodName)) (C := "com/example/benchwire/benchwire/protocol/hl7/Hl7Message$Type") (a := x2) (hw _ (List.mem_of_getElem? (i := 55) rfl)) (hw _ (List.mem_of_getElem? (i := 56) rfl)) (hw _ (List.mem_of_getElem? (i := 58) rfl)) (hw _ (List.mem_of_getElem? (i := 58) rfl)) (hw _ (List.mem_of_getElem? (i := 57) rfl)) (hw _ (List.mem_of_getElem? (i := 2) rfl)) (hw _ (List.mem_of_getElem? (i := 59) rfl)) (by decide) ((A26.ext E62).ext E69) (rm_eqN G0 h64 x2) all0 all0 (argsL := [.null]) (rest := []) (lenOf (by decide +kernel : parseMethodDescriptor "(Ljava/lang/Object;)Z" = some ⟨[(.object "java/lang/Object")], (some .boolean)⟩) rfl) rfl rfl (hb hby at_161) (by rw [hml]; rfl) (W := 0) (Nat.le_of_eq rfl) (by decide) (by decide) (by decide) (by decide) (pc' := 164) rfl fun u98 T h99 w K100 P101 => ?_
          obtain ⟨rfl, rfl⟩ := P101
          show Run p e below _ T (mkF m 164 #[.val (.long p0), .second, .val (.long p1), .second, .val (.long p2), .second, .val (.long p3), .second, .val (.int p4), .val (.long cc), .second, .val (.long ee), .second, .val (.ref x2), .val (.ref x33), .val (.ref s67), .val (.int v70), .val (.null), .val (.int 0), .unset] [.int 0])
          refine s_istore w #[.val (.long p0), .second, .val (.long p1), .second, .val (.long p2), .second, .val (.long p3), .second, .val (.int p4), .val (.long cc), .second, .val (.long ee), .second, .val (.ref x2), .val (.ref x33), .val (.ref s67), .val (.int v70), .val (.null), .val (.int 0), .val (.int 0)] (hb hby at_164) rfl (pc' := 166) rfl ?_
          refine s_iload w (hb hby at_166) rfl (pc' := 168) rfl ?_
          refine s_if_ne w (hb hby at_168) (by decide) (pc1 := 171) rfl (pc2 := 185) rfl (fun q => absurd q ct71) (fun _ => ?_)
          refine s_iload w (hb hby at_185) rfl (pc' := 187) rfl ?_
          refine s_iload w (hb hby at_187) rfl (pc' := 189) rfl ?_
          refine s_icmp_ne w (hb hby at_189) (by decide) (pc1 := 192) rfl (pc2 := 196) rfl (fun _ => ?_) (fun q => absurd q (by decide))
          refine s_iconst w (hb hby at_192) (v := 1) rfl (pc' := 193) rfl ?_
          refine s_goto w (hb hby at_193) (by decide) (pc' := 197) rfl ?_
          exact w_ireturn w hEL hs hlk hret rfl (Or.inr (Or.inl rfl)) (hb hby at_197) (by decide) (by decide) rfl
        · -- ¬ (v70 = 1)
          refine s_iload w (hb hby at_134) rfl (pc' := 136) rfl ?_
          refine s_iconst w (hb hby at_136) (v := 2) rfl (pc' := 137) rfl ?_
          refine s_icmp_ne w (hb hby at_137) (by decide) (pc1 := 140) rfl (pc2 := 150) rfl (fun ct103 => ?_) (fun ct103 => ?_)
          · -- v70 = 2
            refine s_aload w (hb hby at_140) rfl rfl (pc' := 142) rfl ?_
            refine s_astore w #[.val (.long p0), .second, .val (.long p1), .second, .val (.long p2), .second, .val (.long p3), .second, .val (.int p4), .val (.long cc), .second, .val (.long ee), .second, .val (.ref x2), .val (.ref x33), .val (.ref s67), .val (.int v70), .val (.ref s67), .unset, .unset] (hb hby at_142) rfl rfl (pc' := 144) rfl ?_
            refine s_iconst w (hb hby at_144) (v := 0) rfl (pc' := 145) rfl ?_
            refine s_istore w #[.val (.long p0), .second, .val (.long p1), .second, .val (.long p2), .second, .val (.long p3), .second, .val (.int p4), .val (.long cc), .second, .val (.long ee), .second, .val (.ref x2), .val (.ref x33), .val (.ref s67), .val (.int v70), .val (.ref s67), .val (.int 0), .unset] (hb hby at_145) rfl (pc' := 147) rfl ?_
            refine s_goto w (hb hby at_147) (by decide) (pc' := 157) rfl ?_
            refine s_aload w (hb hby at_157) rfl rfl (pc' := 159) rfl ?_
            refine s_aload w (hb hby at_159) rfl rfl (pc' := 161) rfl ?_
            refine w_virtual w hEL (y := (⟨"com/example/benchwire/benchwire/protocol/hl7/Hl7Message$Type", "equals", "(Ljava/lang/Object;)Z"⟩ : MethodName)) (y' := (⟨"com/example/benchwire/benchwire/protocol/hl7/Hl7Message$Type", "equals", "(Ljava/lang/Object;)Z"⟩ : MethodName)) (C := "com/example/benchwire/benchwire/protocol/hl7/Hl7Message$Type") (a := x2) (hw _ (List.mem_of_getElem? (i := 55) rfl)) (hw _ (List.mem_of_getElem? (i := 56) rfl)) (hw _ (List.mem_of_getElem? (i := 58) rfl)) (hw _ (List.mem_of_getElem? (i := 58) rfl)) (hw _ (List.mem_of_getElem? (i := 57) rfl)) (hw _ (List.mem_of_getElem? (i := 2) rfl)) (hw _ (List.mem_of_getElem? (i := 59) rfl)) (by decide) ((A26.ext E62).ext E69) (rm_eqS G0 h64 x2 s67 _ F68) all0 all0 (argsL := [.ref s67]) (rest := []) (lenOf (by decide +kernel : parseMethodDescriptor "(Ljava/lang/Object;)Z" = some ⟨[(.object "java/lang/Object")], (some .boolean)⟩) rfl) rfl rfl (hb hby at_161) (by rw [hml]; rfl) (W := 0) (Nat.le_of_eq rfl) (by decide) (by decide) (by decide) (by decide) (pc' := 164) rfl fun u104 T h105 w K106 P107 => ?_
            obtain ⟨rfl, rfl⟩ := P107
            show Run p e below _ T (mkF m 164 #[.val (.long p0), .second, .val (.long p1), .second, .val (.long p2), .second, .val (.long p3), .second, .val (.int p4), .val (.long cc), .second, .val (.long ee), .second, .val (.ref x2), .val (.ref x33), .val (.ref s67), .val (.int v70), .val (.ref s67), .val (.int 0), .unset] [.int 0])
            refine s_istore w #[.val (.long p0), .second, .val (.long p1), .second, .val (.long p2), .second, .val (.long p3), .second, .val (.int p4), .val (.long cc), .second, .val (.long ee), .second, .val (.ref x2), .val (.ref x33), .val (.ref s67), .val (.int v70), .val (.ref s67), .val (.int 0), .val (.int 0)] (hb hby at_164) rfl (pc' := 166) rfl ?_
            refine s_iload w (hb hby at_166) rfl (pc' := 168) rfl ?_
            refine s_if_ne w (hb hby at_168) (by decide) (pc1 := 171) rfl (pc2 := 185) rfl (fun q => absurd q ct71) (fun _ => ?_)
            refine s_iload w (hb hby at_185) rfl (pc' := 187) rfl ?_
            refine s_iload w (hb hby at_187) rfl (pc' := 189) rfl ?_
            refine s_icmp_ne w (hb hby at_189) (by decide) (pc1 := 192) rfl (pc2 := 196) rfl (fun _ => ?_) (fun q => absurd q (by decide))
            refine s_iconst w (hb hby at_192) (v := 1) rfl (pc' := 193) rfl ?_
            refine s_goto w (hb hby at_193) (by decide) (pc' := 197) rfl ?_
            exact w_ireturn w hEL hs hlk hret rfl (Or.inr (Or.inl rfl)) (hb hby at_197) (by decide) (by decide) rfl
          · -- ¬ (v70 = 2)
            refine s_aload w (hb hby at_150) rfl rfl (pc' := 152) rfl ?_
            refine s_astore w #[.val (.long p0), .second, .val (.long p1), .second, .val (.long p2), .second, .val (.long p3), .second, .val (.int p4), .val (.long cc), .second, .val (.long ee), .second, .val (.ref x2), .val (.ref x33), .val (.ref s67), .val (.int v70), .val (.ref x2), .unset, .unset] (hb hby at_152) rfl rfl (pc' := 154) rfl ?_
            refine s_iconst w (hb hby at_154) (v := 1) rfl (pc' := 155) rfl ?_
            refine s_istore w #[.val (.long p0), .second, .val (.long p1), .second, .val (.long p2), .second, .val (.long p3), .second, .val (.int p4), .val (.long cc), .second, .val (.long ee), .second, .val (.ref x2), .val (.ref x33), .val (.ref s67), .val (.int v70), .val (.ref x2), .val (.int 1), .unset] (hb hby at_155) rfl (pc' := 157) rfl ?_
            refine s_aload w (hb hby at_157) rfl rfl (pc' := 159) rfl ?_
            refine s_aload w (hb hby at_159) rfl rfl (pc' := 161) rfl ?_
            refine w_virtual w hEL (y := (⟨"com/example/benchwire/benchwire/protocol/hl7/Hl7Message$Type", "equals", "(Ljava/lang/Object;)Z"⟩ : MethodName)) (y' := (⟨"com/example/benchwire/benchwire/protocol/hl7/Hl7Message$Type", "equals", "(Ljava/lang/Object;)Z"⟩ : MethodName)) (C := "com/example/benchwire/benchwire/protocol/hl7/Hl7Message$Type") (a := x2) (hw _ (List.mem_of_getElem? (i := 55) rfl)) (hw _ (List.mem_of_getElem? (i := 56) rfl)) (hw _ (List.mem_of_getElem? (i := 58) rfl)) (hw _ (List.mem_of_getElem? (i := 58) rfl)) (hw _ (List.mem_of_getElem? (i := 57) rfl)) (hw _ (List.mem_of_getElem? (i := 2) rfl)) (hw _ (List.mem_of_getElem? (i := 59) rfl)) (by decide) ((A26.ext E62).ext E69) (rm_eq G0 h64 x2 x2 _ _ _ _ _ _ _ _ ((A26.ext E62).ext E69) ((F27.ext E62).ext E69) ((F28.ext E62).ext E69) ((F27.ext E62).ext E69) ((F28.ext E62).ext E69) ((F29.ext E62).ext E69) ((F30.ext E62).ext E69) ((F29.ext E62).ext E69) ((F30.ext E62).ext E69)) all0 all0 (argsL := [.ref x2]) (rest := []) (lenOf (by decide +kernel : parseMethodDescriptor "(Ljava/lang/Object;)Z" = some ⟨[(.object "java/lang/Object")], (some .boolean)⟩) rfl) rfl rfl (hb hby at_161) (by rw [hml]; rfl) (W := 0) (Nat.le_of_eq rfl) (by decide) (by decide) (by decide) (by decide) (pc' := 164) rfl fun u109 T h110 w K111 P112 => ?_
            obtain ⟨rfl, rfl⟩ := P112
            generalize hz113 : (if strJ p0 = strJ p0 ∧ strJ p1 = strJ p1 then (1 : Int32) else 0) = z113
            show Run p e below _ T (mkF m 164 #[.val (.long p0), .second, .val (.long p1), .second, .val (.long p2), .second, .val (.long p3), .second, .val (.int p4), .val (.long cc), .second, .val (.long ee), .second, .val (.ref x2), .val (.ref x33), .val (.ref s67), .val (.int v70), .val (.ref x2), .val (.int 1), .unset] [.int z113])
            refine s_istore w #[.val (.long p0), .second, .val (.long p1), .second, .val (.long p2), .second, .val (.long p3), .second, .val (.int p4), .val (.long cc), .second, .val (.long ee), .second, .val (.ref x2), .val (.ref x33), .val (.ref s67), .val (.int v70), .val (.ref x2), .val (.int 1), .val (.int z113)] (hb hby at_164) rfl (pc' := 166) rfl ?_
            refine s_iload w (hb hby at_166) rfl (pc' := 168) rfl ?_
            refine s_if_ne w (hb hby at_168) (by decide) (pc1 := 171) rfl (pc2 := 185) rfl (fun q => absurd q ct71) (fun _ => ?_)
            refine s_iload w (hb hby at_185) rfl (pc' := 187) rfl ?_
            refine s_iload w (hb hby at_187) rfl (pc' := 189) rfl ?_
            refine s_icmp_ne w (hb hby at_189) (by decide) (pc1 := 192) rfl (pc2 := 196) rfl (fun ct114 => ?_) (fun ct114 => ?_)
            · -- z113 = 1
              refine s_iconst w (hb hby at_192) (v := 1) rfl (pc' := 193) rfl ?_
              refine s_goto w (hb hby at_193) (by decide) (pc' := 197) rfl ?_
              exact w_ireturn w hEL hs hlk hret rfl (Or.inr (Or.inl rfl)) (hb hby at_197) (by decide) (by decide) rfl
            · -- ¬ (z113 = 1)
              refine s_iconst w (hb hby at_196) (v := 0) rfl (pc' := 197) rfl ?_
              exact absurd (show z113 = 1 by rw [← hz113]; exact if_pos ⟨rfl, rfl⟩) ct114
    · skip
      refine s_if_eq w (hb hby at_23) (by decide) (pc1 := 26) rfl (pc2 := 30) rfl (fun ct115 => ?_) (fun ct115 => ?_)
      · skip -- ¬ (((XT.ushr p4 3) &&& 1) = 0)
        refine s_lload_n w (hb hby at_26) rfl (pc' := 27) rfl ?_
        refine s_goto w (hb hby at_27) (by decide) (pc' := 32) rfl ?_
        exact J _ trivial
      · skip -- ((XT.ushr p4 3) &&& 1) = 0
        refine s_lload w (hb hby at_30) rfl (pc' := 32) rfl ?_
        exact J _ trivial
  · skip
    refine s_if_eq w (hb hby at_6) (by decide) (pc1 := 9) rfl (pc2 := 13) rfl (fun ct116 => ?_) (fun ct116 => ?_)
    · skip -- ¬ (((XT.ushr p4 2) &&& 1) = 0)
      refine s_lload_n w (hb hby at_9) rfl (pc' := 10) rfl ?_
      refine s_goto w (hb hby at_10) (by decide) (pc' := 15) rfl ?_
      exact J _ trivial
    · skip -- ((XT.ushr p4 2) &&& 1) = 0
      refine s_lload w (hb hby at_13) rfl (pc' := 15) rfl ?_
      exact J _ trivial
set_option maxRecDepth 65536 in
set_option maxHeartbeats 40000000 in
theorem comes_1 {Post : Tables → Env → Array Value → State → Outcome → State → Prop} (hpost : ∀ tb e args s v u, (limb_1_1.after args s (.returned v) u = true ∧ limb_1_2.after args s (.returned v) u = true ∧ True) → FramedW s (.returned v) u (Jvm.fieldLocs frame_1_writes args s ++ Jvm.arrayLocs frame_1_arrays args s ++ Jvm.staticLocs frame_1_statics s) room_1.cells room_1.slots → Post tb e args s (.returned v) u) :
    ArmFor flags0 classFile x code maxLocals ret World_1 tables_1 room_1 Calls_1 rest_1 Pre_1 Post := by
  intro l hfl _ _ p e ha hc hk s m args below hf hA hF happ hP
  obtain ⟨hcalls, hrest, hpre⟩ := hP
  obtain ⟨-, -, -, hnamed, -, -, -, hat⟩ := (Spec.applies_iff hf).mp happ
  obtain ⟨hg, hn⟩ := and_e (Cond.before_iff.mp (show (Jvm.Cond.and given_1 narrow_1).before args s = true from hpre))
  obtain ⟨hcnt, hg⟩ := and_e hg
  obtain ⟨w0, w1, w2, w3, w4, rfl⟩ : ∃ w0 w1 w2 w3 w4 : Value, args = #[w0, w1, w2, w3, w4] := by
    have hs : args.size = 5 := by simpa [Cond.value, given_1] using hcnt
    obtain ⟨L⟩ := args
    match L, hs with
    | [w0, w1, w2, w3, w4], _ => exact ⟨w0, w1, w2, w3, w4, rfl⟩
  obtain ⟨g0, hg⟩ := and_e hg
  obtain ⟨g1, hg⟩ := and_e hg
  obtain ⟨g2, hg⟩ := and_e hg
  obtain ⟨g3, hg⟩ := and_e hg
  have g4 := hg
  obtain ⟨i0, e0⟩ := isL_v g0
  obtain rfl : w0 = .long i0 := Option.some.inj e0
  obtain ⟨i1, e1⟩ := isL_v g1
  obtain rfl : w1 = .long i1 := Option.some.inj e1
  obtain ⟨i2, e2⟩ := isL_v g2
  obtain rfl : w2 = .long i2 := Option.some.inj e2
  obtain ⟨i3, e3⟩ := isL_v g3
  obtain rfl : w3 = .long i3 := Option.some.inj e3
  obtain ⟨i4, e4⟩ := is_v g4
  obtain rfl : w4 = .int i4 := Option.some.inj e4
  have hw := fun d (hd : d ∈ tables_1) => atoms_spec (ws := Jvm.Cond.code x code maxLocals ret :: tables_1) hat d (List.mem_cons_of_mem _ hd)
  have hset : ∀ d ∈ jdkStatics_1, d.before _ s = true := (atoms_of jdkStatics_1 (show (jdkStatics_1.foldr Jvm.Cond.and restOwn_1).before _ s = true from hrest)).1
  have hEL : EW s _ consts_1 := (EW.cons (hw _ (List.mem_of_getElem? (i := 52) rfl)) (by decide) EW.nil)
  obtain ⟨zc, vzc⟩ := is_v (Cond.before_iff.mp (hset _ (List.mem_of_getElem? (i := 1) rfl)))
  have SC : Sta s s.heap ST "COMPACT_STRINGS" "Z" (.int zc) := Sta.start vzc (Or.inl (hset _ (List.mem_of_getElem? (i := 0) rfl)))
  have hz : ¬ zc = 0 := ne_int vzc (hset _ (List.mem_of_getElem? (i := 2) rfl))
  have G : Gl s #[.long i0, .long i1, .long i2, .long i3, .int i4] zc := ⟨hw, hEL, SC, hz⟩
  have hCH : CHv s consts_1 s.vm s.heap := CHv.start hEL (fun q hq => hcalls.1 q hq) (hset _ (List.mem_of_getElem? (i := 2) rfl)) (hw _ (List.mem_of_getElem? (i := 28) rfl)) (hw _ (List.mem_of_getElem? (i := 11) rfl))
  obtain ⟨n, o, h1, h2, h3, v, L, rfl, ⟨N, -, rfl⟩, -, hq⟩ := (rm_law (l := l) G s.heap i0 i1 i2 i3 i4) tables_1 p e ha hc hk s m _ below hf ((Spec.applies_iff_loose hf).mp happ).1 ⟨rfl, State.Warmed39.refl s, rfl, hCH, Ext.rf _, all0, all0⟩ trivial
  refine ⟨n, _, h1, h2, h3, hpost _ _ _ _ _ _ ⟨Cond.after_iff.mpr rfl, Cond.after_iff.mpr (eq_i res_at (Term.int_eval (1)) rfl), trivial⟩ ⟨hq.1, hq.2.1, hq.2.2.1, hq.2.2.2.sift fun y hy => Or.inr (N y hy)⟩⟩
end Ow
theorem main_1_1 : Claimed_1_1 := Ow.comes_1 fun _ _ _ _ _ _ h hF => ⟨h.1, hF⟩
theorem main_1_2 : Claimed_1_2 := Ow.comes_1 fun _ _ _ _ _ _ h hF => ⟨h.2.1, hF⟩
end Jvm.Pilot.@@N@@
namespace Jvm.Pilot.@@N@@
open Jvm Jvm.ClassFile Sem Op Lib Jvm.Free Jvm.Stand Jvm.Pilot.@@N@@.Jvm.D
/-! MADE BY PROGRAM (witnessworld.py) out of the Statement's table words and the real class files: 21 classes; the members and pool entries that the words name. The judged class is class 1, her method 1. -/
namespace start1
open Jvm.ClassFile
def u (s : String) : CpInfo := .utf8 (stringToUtf16 s)
/-- a pool by its gaps: so many unusable entries, then the entry; so many at the end -/
def gap : Nat → List CpInfo → List CpInfo
  | 0, r => r
  | n + 1, r => .unusable :: gap n r
def poolList (es : List (Nat × CpInfo)) (last : Nat) : List CpInfo := es.foldr (fun e r => gap e.1 (e.2 :: r)) (gap last [])
def pool (es : List (Nat × CpInfo)) (last : Nat) : Array CpInfo := ⟨poolList es last⟩
def fileOf (pool : Array CpInfo) (this : Nat) (attrs : Array Attribute := #[]) (ms : Array MethodInfo := #[]) (fl : Nat := 33) (sup : Nat := 0) (ifs : Array Nat := #[]) (fds : Array FieldInfo := #[]) : ClassFile where
  minorVersion := 0
  majorVersion := 65
  constantPool := pool
  accessFlags := fl
  thisClass := this
  superClass := sup
  interfaces := ifs
  fields := fds
  methods := ms
  attributes := attrs
def plain (name : String) (sup : Option ClassId) : Class where
  name := name
  kind := .ordinary
  loader := none
  accessFlags := 33
  super := sup
  interfaces := #[]
  cf := none
  fields := #[]
  methods := #[]
  instanceTypes := #[]
  staticTypes := #[]
  resolved := #[]
  callSites := []
  init := .initialized
  statics := none
  mirror := none

def pool0 : Array CpInfo := pool [(5, u "<init>"), (0, u "()V"), (1, .class_ 10), (1, u "java/lang/Object")] 113

def k0c0 : Code := { maxStack := 0, maxLocals := 1, code := object_method_1_code, exceptionTable := #[], attributes := #[] }
def k0m0 : Method := { name := "<init>", desc := "()V", sig := { parameters := [], returnType := none }, accessFlags := 1, code := some k0c0 }
/-- java/lang/Object -/
def k0 : Class := { plain "java/lang/Object" none with
  accessFlags := 33
  interfaces := #[]
  cf := some (fileOf pool0 8 #[] #[{ accessFlags := 1, nameIndex := 5, descriptorIndex := 6, attributes := #[] }] 33 0 #[] #[])
  fields := #[]
  methods := #[k0m0]
  instanceTypes := #[]
  staticTypes := #[]
  resolved := Array.replicate 124 none
  statics := none }

def pool1 : Array CpInfo := pool [(2, .class_ 4), (1, u "java/lang/Object"), (0, u "<init>"), (0, u "()V"), (0, .class_ 8), (0, u "com/example/benchwire/benchwire/protocol/hl7/Hl7Message$Type"), (0, .methodref 10 11), (0, .class_ 12), (0, .nameAndType 13 14), (0, u "com/example/benchwire/benchwire/protocol/hl7/TypeEqualsPinLaw"), (0, u "str"), (0, u "(J)Ljava/lang/String;"), (0, .methodref 7 16), (0, .nameAndType 5 17), (0, u "(Ljava/lang/String;Ljava/lang/String;)V"), (0, .methodref 10 19), (0, .nameAndType 20 21), (0, u "same"), (0, u "(JJ)Z"), (0, .methodref 7 23), (0, .nameAndType 24 25), (0, u "equals"), (0, u "(Ljava/lang/Object;)Z"), (0, .long 3), (1, .long 255), (1, .class_ 31), (0, u "java/lang/String"), (0, .methodref 30 33), (0, .nameAndType 5 34), (0, u "([C)V"), (0, .long 8), (3, u "law"), (0, u "(JJJJI)Z")] 7

def k1m0 : Method := { name := "<init>", desc := "()V", sig := { parameters := [], returnType := none }, accessFlags := 1, code := none }
def k1c1 : Code := { maxStack := 5, maxLocals := 20, code := code, exceptionTable := #[], attributes := #[] }
def k1m1 : Method := { name := "law", desc := "(JJJJI)Z", sig := { parameters := [.long, .long, .long, .long, .int], returnType := some .boolean }, accessFlags := 9, code := some k1c1 }
def k1c2 : Code := { maxStack := 4, maxLocals := 7, code := method_3_code, exceptionTable := #[], attributes := #[] }
def k1m2 : Method := { name := "str", desc := "(J)Ljava/lang/String;", sig := { parameters := [.long], returnType := some (.object "java/lang/String") }, accessFlags := 10, code := some k1c2 }
def k1c3 : Code := { maxStack := 6, maxLocals := 10, code := method_4_code, exceptionTable := #[], attributes := #[] }
def k1m3 : Method := { name := "same", desc := "(JJ)Z", sig := { parameters := [.long, .long], returnType := some .boolean }, accessFlags := 10, code := some k1c3 }
/-- com/example/benchwire/benchwire/protocol/hl7/TypeEqualsPinLaw -/
def k1 : Class := { plain "com/example/benchwire/benchwire/protocol/hl7/TypeEqualsPinLaw" (some 0) with
  accessFlags := 49
  interfaces := #[]
  cf := some (fileOf pool1 10 #[] #[{ accessFlags := 1, nameIndex := 5, descriptorIndex := 6, attributes := #[] }, { accessFlags := 9, nameIndex := 39, descriptorIndex := 40, attributes := #[] }, { accessFlags := 10, nameIndex := 13, descriptorIndex := 14, attributes := #[] }, { accessFlags := 10, nameIndex := 20, descriptorIndex := 21, attributes := #[] }] 49 2 #[] #[])
  fields := #[]
  methods := #[k1m0, k1m1, k1m2, k1m3]
  instanceTypes := #[]
  staticTypes := #[]
  resolved := Array.replicate 48 none
  statics := none }

def pool2 : Array CpInfo := pool [(1, .methodref 2 3), (0, .class_ 4), (0, .nameAndType 5 6), (0, u "java/lang/Object"), (0, u "<init>"), (0, u "()V"), (0, .class_ 8), (0, u "java/lang/Record")] 13

def k2c0 : Code := { maxStack := 1, maxLocals := 1, code := jdk_30_method_1_code, exceptionTable := #[], attributes := #[] }
def k2m0 : Method := { name := "<init>", desc := "()V", sig := { parameters := [], returnType := none }, accessFlags := 4, code := some k2c0 }
/-- java/lang/Record -/
def k2 : Class := { plain "java/lang/Record" (some 0) with
  accessFlags := 1057
  interfaces := #[]
  cf := some (fileOf pool2 7 #[] #[{ accessFlags := 4, nameIndex := 5, descriptorIndex := 6, attributes := #[] }] 1057 2 #[] #[])
  fields := #[]
  methods := #[k2m0]
  instanceTypes := #[]
  staticTypes := #[]
  resolved := Array.replicate 22 none
  statics := none }

def pool3 : Array CpInfo := pool [(1, .methodref 2 3), (0, .class_ 4), (0, .nameAndType 5 6), (0, u "java/lang/Record"), (0, u "<init>"), (0, u "()V"), (0, .fieldref 8 9), (0, .class_ 10), (0, .nameAndType 11 12), (0, u "com/example/benchwire/benchwire/protocol/hl7/Hl7Message$Type"), (0, u "code"), (0, u "Ljava/lang/String;"), (0, .fieldref 8 14), (0, .nameAndType 15 12), (0, u "event"), (0, .methodref 17 18), (0, .class_ 19), (0, .nameAndType 20 21), (0, u "java/lang/String"), (0, u "equals"), (0, u "(Ljava/lang/Object;)Z"), (8, u "(Ljava/lang/String;Ljava/lang/String;)V"), (8, .class_ 40), (0, u "com/example/benchwire/benchwire/protocol/hl7/Hl7Message")] 20

def k3c0 : Code := { maxStack := 2, maxLocals := 3, code := prog_102_method_1_code, exceptionTable := #[], attributes := #[] }
def k3m0 : Method := { name := "<init>", desc := "(Ljava/lang/String;Ljava/lang/String;)V", sig := { parameters := [(.object "java/lang/String"), (.object "java/lang/String")], returnType := none }, accessFlags := 1, code := some k3c0 }
def k3c1 : Code := { maxStack := 2, maxLocals := 3, code := prog_102_method_2_code, exceptionTable := #[], attributes := #[] }
def k3m1 : Method := { name := "equals", desc := "(Ljava/lang/Object;)Z", sig := { parameters := [(.object "java/lang/Object")], returnType := some .boolean }, accessFlags := 1, code := some k3c1 }
/-- com/example/benchwire/benchwire/protocol/hl7/Hl7Message$Type -/
def k3 : Class := { plain "com/example/benchwire/benchwire/protocol/hl7/Hl7Message$Type" (some 2) with
  accessFlags := 49
  interfaces := #[]
  cf := some (fileOf pool3 8 #[.nestHost 39] #[{ accessFlags := 1, nameIndex := 5, descriptorIndex := 30, attributes := #[] }, { accessFlags := 1, nameIndex := 20, descriptorIndex := 21, attributes := #[] }] 49 2 #[] #[{ accessFlags := 18, nameIndex := 11, descriptorIndex := 12, attributes := #[] }, { accessFlags := 18, nameIndex := 15, descriptorIndex := 12, attributes := #[] }])
  fields := #[{ name := "code", type := (.object "java/lang/String"), accessFlags := 18, slot := 0, constantValue := 0 }, { name := "event", type := (.object "java/lang/String"), accessFlags := 18, slot := 1, constantValue := 0 }]
  methods := #[k3m0, k3m1]
  instanceTypes := #[(.object "java/lang/String"), (.object "java/lang/String")]
  staticTypes := #[]
  resolved := Array.replicate 61 none
  statics := none }

def pool4 : Array CpInfo := pool [(1, .class_ 2), (0, u "java/io/Serializable"), (0, .class_ 4), (0, u "java/lang/Object")] 2

/-- java/io/Serializable -/
def k4 : Class := { plain "java/io/Serializable" (some 0) with
  accessFlags := 1537
  interfaces := #[]
  cf := some (fileOf pool4 1 #[] #[] 1537 3 #[] #[])
  fields := #[]
  methods := #[]
  instanceTypes := #[]
  staticTypes := #[]
  resolved := Array.replicate 7 none
  statics := none }

def pool5 : Array CpInfo := pool [(1, .class_ 2), (0, u "java/lang/Comparable"), (0, .class_ 4), (0, u "java/lang/Object")] 7

/-- java/lang/Comparable -/
def k5 : Class := { plain "java/lang/Comparable" (some 0) with
  accessFlags := 1537
  interfaces := #[]
  cf := some (fileOf pool5 1 #[] #[] 1537 3 #[] #[])
  fields := #[]
  methods := #[]
  instanceTypes := #[]
  staticTypes := #[]
  resolved := Array.replicate 12 none
  statics := none }

def pool6 : Array CpInfo := pool [(2, .class_ 4), (1, u "java/lang/CharSequence"), (42, .class_ 48), (0, u "java/lang/CharSequence$1CodePointIterator"), (10, .class_ 60), (0, u "java/lang/CharSequence$1CharIterator"), (5, .class_ 67), (0, u "java/lang/Object")] 63

/-- java/lang/CharSequence -/
def k6 : Class := { plain "java/lang/CharSequence" (some 0) with
  accessFlags := 1537
  interfaces := #[]
  cf := some (fileOf pool6 2 #[.nestMembers #[47, 59]] #[] 1537 66 #[] #[])
  fields := #[]
  methods := #[]
  instanceTypes := #[]
  staticTypes := #[]
  resolved := Array.replicate 131 none
  statics := none }

def pool7 : Array CpInfo := pool [(1, .class_ 2), (0, u "java/lang/constant/Constable"), (0, .class_ 4), (0, u "java/lang/Object")] 6

/-- java/lang/constant/Constable -/
def k7 : Class := { plain "java/lang/constant/Constable" (some 0) with
  accessFlags := 1537
  interfaces := #[]
  cf := some (fileOf pool7 1 #[] #[] 1537 3 #[] #[])
  fields := #[]
  methods := #[]
  instanceTypes := #[]
  staticTypes := #[]
  resolved := Array.replicate 11 none
  statics := none }

def pool8 : Array CpInfo := pool [(1, .class_ 2), (0, u "java/lang/constant/ConstantDesc"), (0, .class_ 4), (0, u "java/lang/Object")] 32

/-- java/lang/constant/ConstantDesc -/
def k8 : Class := { plain "java/lang/constant/ConstantDesc" (some 0) with
  accessFlags := 1537
  interfaces := #[]
  cf := some (fileOf pool8 1 #[] #[] 1537 3 #[] #[])
  fields := #[]
  methods := #[]
  instanceTypes := #[]
  staticTypes := #[]
  resolved := Array.replicate 37 none
  statics := none }

def pool9 : Array CpInfo := pool [(1, .methodref 2 3), (0, .class_ 4), (0, .nameAndType 5 6), (0, u "java/lang/Object"), (0, u "<init>"), (0, u "()V"), (0, .string 8), (0, u ""), (0, .fieldref 10 11), (0, .class_ 12), (0, .nameAndType 13 14), (0, u "java/lang/String"), (0, u "value"), (0, u "[B"), (0, .fieldref 10 16), (0, .nameAndType 17 18), (0, u "coder"), (0, u "B"), (2, u "hash"), (0, u "I"), (2, u "hashIsZero"), (0, u "Z"), (0, .methodref 10 28), (0, .nameAndType 5 29), (0, u "([CIILjava/lang/Void;)V"), (8, .fieldref 10 39), (0, .nameAndType 40 26), (0, u "COMPACT_STRINGS"), (1, .class_ 44), (1, u "java/lang/StringUTF16"), (0, u "compress"), (1, .methodref 42 48), (0, .nameAndType 49 50), (0, u "coderFromArrayLen"), (0, u "([BI)B"), (56, .class_ 109), (1, u "java/lang/StringLatin1"), (67, .methodref 42 178), (0, .nameAndType 45 179), (0, u "([CII)[B"), (361, .methodref 107 542), (0, .nameAndType 543 544), (0, u "equals"), (0, u "([B[B)Z"), (28, u "(Ljava/lang/Object;)Z"), (1, .class_ 576), (0, u "java/lang/CharSequence"), (22, u "CASE_INSENSITIVE_ORDER"), (0, u "Ljava/util/Comparator;"), (409, u "([C)V"), (90, u "serialPersistentFields"), (0, u "[Ljava/io/ObjectStreamField;"), (0, .class_ 1104), (0, u "java/lang/String$CaseInsensitiveComparator"), (1, .class_ 1107), (0, u "java/io/Serializable"), (0, .class_ 1109), (0, u "java/lang/Comparable"), (0, .class_ 1111), (0, u "java/lang/constant/Constable"), (0, .class_ 1113), (0, u "java/lang/constant/ConstantDesc"), (2, u "serialVersionUID"), (0, u "J"), (3, u "REPL"), (0, u "C"), (2, u "LATIN1"), (1, u "UTF16")] 323

def k9m0 : Method := { name := "<init>", desc := "()V", sig := { parameters := [], returnType := none }, accessFlags := 1, code := none }
def k9c1 : Code := { maxStack := 5, maxLocals := 2, code := jdk_42_method_3_code, exceptionTable := #[], attributes := #[] }
def k9m1 : Method := { name := "<init>", desc := "([C)V", sig := { parameters := [(.array .char)], returnType := none }, accessFlags := 1, code := some k9c1 }
def k9c2 : Code := { maxStack := 2, maxLocals := 3, code := jdk_42_method_66_code, exceptionTable := #[], attributes := #[] }
def k9m2 : Method := { name := "equals", desc := "(Ljava/lang/Object;)Z", sig := { parameters := [(.object "java/lang/Object")], returnType := some .boolean }, accessFlags := 1, code := some k9c2 }
def k9c3 : Code := { maxStack := 4, maxLocals := 6, code := jdk_42_method_149_code, exceptionTable := #[], attributes := #[] }
def k9m3 : Method := { name := "<init>", desc := "([CIILjava/lang/Void;)V", sig := { parameters := [(.array .char), .int, .int, (.object "java/lang/Void")], returnType := none }, accessFlags := 2, code := some k9c3 }
/-- java/lang/String -/
def k9 : Class := { plain "java/lang/String" (some 0) with
  accessFlags := 49
  interfaces := #[4, 5, 6, 7, 8]
  cf := some (fileOf pool9 10 #[.nestMembers #[1103]] #[{ accessFlags := 1, nameIndex := 5, descriptorIndex := 6, attributes := #[] }, { accessFlags := 1, nameIndex := 5, descriptorIndex := 1010, attributes := #[] }, { accessFlags := 1, nameIndex := 543, descriptorIndex := 573, attributes := #[] }, { accessFlags := 2, nameIndex := 5, descriptorIndex := 29, attributes := #[] }] 49 2 #[1106, 1108, 575, 1110, 1112] #[{ accessFlags := 18, nameIndex := 13, descriptorIndex := 14, attributes := #[] }, { accessFlags := 18, nameIndex := 17, descriptorIndex := 18, attributes := #[] }, { accessFlags := 2, nameIndex := 21, descriptorIndex := 22, attributes := #[] }, { accessFlags := 2, nameIndex := 25, descriptorIndex := 26, attributes := #[] }, { accessFlags := 26, nameIndex := 1116, descriptorIndex := 1117, attributes := #[] }, { accessFlags := 24, nameIndex := 40, descriptorIndex := 26, attributes := #[] }, { accessFlags := 26, nameIndex := 1101, descriptorIndex := 1102, attributes := #[] }, { accessFlags := 26, nameIndex := 1121, descriptorIndex := 1122, attributes := #[] }, { accessFlags := 25, nameIndex := 599, descriptorIndex := 600, attributes := #[] }, { accessFlags := 24, nameIndex := 1125, descriptorIndex := 18, attributes := #[] }, { accessFlags := 24, nameIndex := 1127, descriptorIndex := 18, attributes := #[] }])
  fields := #[{ name := "value", type := (.array .byte), accessFlags := 18, slot := 0, constantValue := 0 }, { name := "coder", type := .byte, accessFlags := 18, slot := 1, constantValue := 0 }, { name := "hash", type := .int, accessFlags := 2, slot := 2, constantValue := 0 }, { name := "hashIsZero", type := .boolean, accessFlags := 2, slot := 3, constantValue := 0 }, { name := "serialVersionUID", type := .long, accessFlags := 26, slot := 0, constantValue := 0 }, { name := "COMPACT_STRINGS", type := .boolean, accessFlags := 24, slot := 1, constantValue := 0 }, { name := "serialPersistentFields", type := (.array (.object "java/io/ObjectStreamField")), accessFlags := 26, slot := 2, constantValue := 0 }, { name := "REPL", type := .char, accessFlags := 26, slot := 3, constantValue := 0 }, { name := "CASE_INSENSITIVE_ORDER", type := (.object "java/util/Comparator"), accessFlags := 25, slot := 4, constantValue := 0 }, { name := "LATIN1", type := .byte, accessFlags := 24, slot := 5, constantValue := 0 }, { name := "UTF16", type := .byte, accessFlags := 24, slot := 6, constantValue := 0 }]
  methods := #[k9m0, k9m1, k9m2, k9m3]
  instanceTypes := #[(.array .byte), .byte, .int, .boolean]
  staticTypes := #[.long, .boolean, (.array (.object "java/io/ObjectStreamField")), .char, (.object "java/util/Comparator"), .byte, .byte]
  resolved := Array.replicate 1451 none
  statics := some 0 }

def pool10 : Array CpInfo := pool [(6, .class_ 8), (1, u "java/lang/Object"), (0, u "<init>"), (0, u "()V"), (1, .class_ 14), (1, u "java/lang/StringUTF16"), (31, u "$assertionsDisabled"), (0, u "Z"), (13, u "HI_BYTE_SHIFT"), (0, u "I"), (2, u "LO_BYTE_SHIFT"), (49, .methodref 12 116), (0, .nameAndType 117 118), (0, u "compress"), (0, u "([CI[BII)I"), (3, u "([CII)[B"), (138, u "coderFromArrayLen"), (0, u "([BI)B"), (106, .class_ 371), (1, u "java/lang/StringUTF16$LinesSpliterator"), (58, u "MAX_LENGTH"), (196, .class_ 628), (0, u "java/lang/StringUTF16$CodePointsSpliterator"), (0, .class_ 630), (0, u "java/lang/StringUTF16$CharsSpliterator")] 4

def k10m0 : Method := { name := "<init>", desc := "()V", sig := { parameters := [], returnType := none }, accessFlags := 0, code := none }
def k10c1 : Code := { maxStack := 2, maxLocals := 2, code := jdk_52_method_15_code, exceptionTable := #[], attributes := #[] }
def k10m1 : Method := { name := "coderFromArrayLen", desc := "([BI)B", sig := { parameters := [(.array .byte), .int], returnType := some .byte }, accessFlags := 8, code := some k10c1 }
def k10c2 : Code := { maxStack := 5, maxLocals := 6, code := jdk_52_method_16_code, exceptionTable := #[], attributes := #[] }
def k10m2 : Method := { name := "compress", desc := "([CII)[B", sig := { parameters := [(.array .char), .int, .int], returnType := some (.array .byte) }, accessFlags := 9, code := some k10c2 }
def k10c3 : Code := { maxStack := 3, maxLocals := 7, code := jdk_52_method_21_code, exceptionTable := #[], attributes := #[] }
def k10m3 : Method := { name := "compress", desc := "([CI[BII)I", sig := { parameters := [(.array .char), .int, (.array .byte), .int, .int], returnType := some .int }, accessFlags := 9, code := some k10c3 }
/-- java/lang/StringUTF16 -/
def k10 : Class := { plain "java/lang/StringUTF16" (some 0) with
  accessFlags := 48
  interfaces := #[]
  cf := some (fileOf pool10 12 #[.nestMembers #[627, 629, 369]] #[{ accessFlags := 0, nameIndex := 9, descriptorIndex := 10, attributes := #[] }, { accessFlags := 8, nameIndex := 261, descriptorIndex := 262, attributes := #[] }, { accessFlags := 9, nameIndex := 117, descriptorIndex := 122, attributes := #[] }, { accessFlags := 9, nameIndex := 117, descriptorIndex := 118, attributes := #[] }] 48 6 #[] #[{ accessFlags := 26, nameIndex := 61, descriptorIndex := 62, attributes := #[] }, { accessFlags := 26, nameIndex := 65, descriptorIndex := 62, attributes := #[] }, { accessFlags := 24, nameIndex := 430, descriptorIndex := 62, attributes := #[] }, { accessFlags := 4120, nameIndex := 46, descriptorIndex := 47, attributes := #[] }])
  fields := #[{ name := "HI_BYTE_SHIFT", type := .int, accessFlags := 26, slot := 0, constantValue := 0 }, { name := "LO_BYTE_SHIFT", type := .int, accessFlags := 26, slot := 1, constantValue := 0 }, { name := "MAX_LENGTH", type := .int, accessFlags := 24, slot := 2, constantValue := 0 }, { name := "$assertionsDisabled", type := .boolean, accessFlags := 4120, slot := 3, constantValue := 0 }]
  methods := #[k10m0, k10m1, k10m2, k10m3]
  instanceTypes := #[]
  staticTypes := #[.int, .int, .int, .boolean]
  resolved := Array.replicate 635 none
  statics := none }

def pool11 : Array CpInfo := pool [(4, .class_ 6), (1, u "java/lang/Object"), (0, u "<init>"), (0, u "()V"), (5, .class_ 16), (1, u "java/lang/StringLatin1"), (104, u "$assertionsDisabled"), (0, u "Z"), (98, .class_ 223), (1, u "java/lang/StringLatin1$LinesSpliterator"), (57, u "equals"), (0, u "([B[B)Z"), (107, .class_ 391), (0, u "java/lang/StringLatin1$CharsSpliterator")] 3

def k11m0 : Method := { name := "<init>", desc := "()V", sig := { parameters := [], returnType := none }, accessFlags := 0, code := none }
def k11c1 : Code := { maxStack := 3, maxLocals := 3, code := jdk_43_method_13_code, exceptionTable := #[], attributes := #[] }
def k11m1 : Method := { name := "equals", desc := "([B[B)Z", sig := { parameters := [(.array .byte), (.array .byte)], returnType := some .boolean }, accessFlags := 9, code := some k11c1 }
/-- java/lang/StringLatin1 -/
def k11 : Class := { plain "java/lang/StringLatin1" (some 0) with
  accessFlags := 48
  interfaces := #[]
  cf := some (fileOf pool11 14 #[.nestMembers #[390, 221]] #[{ accessFlags := 0, nameIndex := 7, descriptorIndex := 8, attributes := #[] }, { accessFlags := 9, nameIndex := 281, descriptorIndex := 282, attributes := #[] }] 48 4 #[] #[{ accessFlags := 4120, nameIndex := 121, descriptorIndex := 122, attributes := #[] }])
  fields := #[{ name := "$assertionsDisabled", type := .boolean, accessFlags := 4120, slot := 0, constantValue := 0 }]
  methods := #[k11m0, k11m1]
  instanceTypes := #[]
  staticTypes := #[.boolean]
  resolved := Array.replicate 395 none
  statics := none }

def pool12 : Array CpInfo := pool [(2, .class_ 4), (1, u "java/lang/Object"), (0, u "<init>"), (0, u "()V"), (17, .class_ 26), (1, u "jdk/internal/util/Preconditions"), (28, .class_ 56), (0, u "jdk/internal/util/Preconditions$4"), (57, .class_ 115), (0, u "jdk/internal/util/Preconditions$1"), (7, u "SIOOBE_FORMATTER"), (0, u "Ljava/util/function/BiFunction;"), (0, .class_ 126), (0, u "jdk/internal/util/Preconditions$2"), (3, u "AIOOBE_FORMATTER"), (0, .class_ 132), (0, u "jdk/internal/util/Preconditions$3"), (3, u "IOOBE_FORMATTER")] 57

def k12m0 : Method := { name := "<init>", desc := "()V", sig := { parameters := [], returnType := none }, accessFlags := 1, code := none }
/-- jdk/internal/util/Preconditions -/
def k12 : Class := { plain "jdk/internal/util/Preconditions" (some 0) with
  accessFlags := 33
  interfaces := #[]
  cf := some (fileOf pool12 24 #[.nestMembers #[55, 131, 125, 114]] #[{ accessFlags := 1, nameIndex := 5, descriptorIndex := 6, attributes := #[] }] 33 2 #[] #[{ accessFlags := 25, nameIndex := 123, descriptorIndex := 124, attributes := #[] }, { accessFlags := 25, nameIndex := 130, descriptorIndex := 124, attributes := #[] }, { accessFlags := 25, nameIndex := 136, descriptorIndex := 124, attributes := #[] }])
  fields := #[{ name := "SIOOBE_FORMATTER", type := (.object "java/util/function/BiFunction"), accessFlags := 25, slot := 0, constantValue := 0 }, { name := "AIOOBE_FORMATTER", type := (.object "java/util/function/BiFunction"), accessFlags := 25, slot := 1, constantValue := 0 }, { name := "IOOBE_FORMATTER", type := (.object "java/util/function/BiFunction"), accessFlags := 25, slot := 2, constantValue := 0 }]
  methods := #[k12m0]
  instanceTypes := #[]
  staticTypes := #[(.object "java/util/function/BiFunction"), (.object "java/util/function/BiFunction"), (.object "java/util/function/BiFunction")]
  resolved := Array.replicate 194 none
  statics := some 1 }

def pool13 : Array CpInfo := pool [(9, u "<init>"), (6, .class_ 18), (1, u "java/lang/Object"), (0, u "()V"), (1, .class_ 23), (1, u "jdk/internal/util/ArraysSupport"), (0, u "LOG2_ARRAY_LONG_INDEX_SCALE"), (0, u "I"), (2, u "U"), (0, u "Ljdk/internal/misc/Unsafe;"), (8, u "BIG_ENDIAN"), (0, u "Z"), (8, u "LOG2_BYTE_BIT_SIZE"), (4, u "LOG2_ARRAY_INT_INDEX_SCALE"), (54, u "JLA"), (0, u "Ljdk/internal/access/JavaLangAccess;"), (11, u "LOG2_ARRAY_BOOLEAN_INDEX_SCALE"), (9, u "LOG2_ARRAY_BYTE_INDEX_SCALE"), (5, u "LOG2_ARRAY_CHAR_INDEX_SCALE"), (5, u "LOG2_ARRAY_SHORT_INDEX_SCALE"), (18, u "LOG2_ARRAY_FLOAT_INDEX_SCALE"), (24, u "LOG2_ARRAY_DOUBLE_INDEX_SCALE"), (89, u "T_BOOLEAN"), (2, u "T_CHAR"), (1, u "T_FLOAT"), (1, u "T_DOUBLE"), (1, u "T_BYTE"), (1, u "T_SHORT"), (1, u "T_INT"), (1, u "T_LONG"), (1, u "SOFT_MAX_ARRAY_LENGTH")] 83

def k13m0 : Method := { name := "<init>", desc := "()V", sig := { parameters := [], returnType := none }, accessFlags := 2, code := none }
/-- jdk/internal/util/ArraysSupport -/
def k13 : Class := { plain "jdk/internal/util/ArraysSupport" (some 0) with
  accessFlags := 33
  interfaces := #[]
  cf := some (fileOf pool13 21 #[] #[{ accessFlags := 2, nameIndex := 9, descriptorIndex := 19, attributes := #[] }] 33 16 #[] #[{ accessFlags := 24, nameIndex := 28, descriptorIndex := 29, attributes := #[] }, { accessFlags := 26, nameIndex := 38, descriptorIndex := 39, attributes := #[] }, { accessFlags := 25, nameIndex := 121, descriptorIndex := 25, attributes := #[] }, { accessFlags := 25, nameIndex := 131, descriptorIndex := 25, attributes := #[] }, { accessFlags := 25, nameIndex := 137, descriptorIndex := 25, attributes := #[] }, { accessFlags := 25, nameIndex := 143, descriptorIndex := 25, attributes := #[] }, { accessFlags := 25, nameIndex := 53, descriptorIndex := 25, attributes := #[] }, { accessFlags := 25, nameIndex := 24, descriptorIndex := 25, attributes := #[] }, { accessFlags := 25, nameIndex := 162, descriptorIndex := 25, attributes := #[] }, { accessFlags := 25, nameIndex := 187, descriptorIndex := 25, attributes := #[] }, { accessFlags := 26, nameIndex := 48, descriptorIndex := 25, attributes := #[] }, { accessFlags := 25, nameIndex := 277, descriptorIndex := 25, attributes := #[] }, { accessFlags := 25, nameIndex := 280, descriptorIndex := 25, attributes := #[] }, { accessFlags := 25, nameIndex := 282, descriptorIndex := 25, attributes := #[] }, { accessFlags := 25, nameIndex := 284, descriptorIndex := 25, attributes := #[] }, { accessFlags := 25, nameIndex := 286, descriptorIndex := 25, attributes := #[] }, { accessFlags := 25, nameIndex := 288, descriptorIndex := 25, attributes := #[] }, { accessFlags := 25, nameIndex := 290, descriptorIndex := 25, attributes := #[] }, { accessFlags := 25, nameIndex := 292, descriptorIndex := 25, attributes := #[] }, { accessFlags := 26, nameIndex := 108, descriptorIndex := 109, attributes := #[] }, { accessFlags := 25, nameIndex := 294, descriptorIndex := 25, attributes := #[] }])
  fields := #[{ name := "U", type := (.object "jdk/internal/misc/Unsafe"), accessFlags := 24, slot := 0, constantValue := 0 }, { name := "BIG_ENDIAN", type := .boolean, accessFlags := 26, slot := 1, constantValue := 0 }, { name := "LOG2_ARRAY_BOOLEAN_INDEX_SCALE", type := .int, accessFlags := 25, slot := 2, constantValue := 0 }, { name := "LOG2_ARRAY_BYTE_INDEX_SCALE", type := .int, accessFlags := 25, slot := 3, constantValue := 0 }, { name := "LOG2_ARRAY_CHAR_INDEX_SCALE", type := .int, accessFlags := 25, slot := 4, constantValue := 0 }, { name := "LOG2_ARRAY_SHORT_INDEX_SCALE", type := .int, accessFlags := 25, slot := 5, constantValue := 0 }, { name := "LOG2_ARRAY_INT_INDEX_SCALE", type := .int, accessFlags := 25, slot := 6, constantValue := 0 }, { name := "LOG2_ARRAY_LONG_INDEX_SCALE", type := .int, accessFlags := 25, slot := 7, constantValue := 0 }, { name := "LOG2_ARRAY_FLOAT_INDEX_SCALE", type := .int, accessFlags := 25, slot := 8, constantValue := 0 }, { name := "LOG2_ARRAY_DOUBLE_INDEX_SCALE", type := .int, accessFlags := 25, slot := 9, constantValue := 0 }, { name := "LOG2_BYTE_BIT_SIZE", type := .int, accessFlags := 26, slot := 10, constantValue := 0 }, { name := "T_BOOLEAN", type := .int, accessFlags := 25, slot := 11, constantValue := 0 }, { name := "T_CHAR", type := .int, accessFlags := 25, slot := 12, constantValue := 0 }, { name := "T_FLOAT", type := .int, accessFlags := 25, slot := 13, constantValue := 0 }, { name := "T_DOUBLE", type := .int, accessFlags := 25, slot := 14, constantValue := 0 }, { name := "T_BYTE", type := .int, accessFlags := 25, slot := 15, constantValue := 0 }, { name := "T_SHORT", type := .int, accessFlags := 25, slot := 16, constantValue := 0 }, { name := "T_INT", type := .int, accessFlags := 25, slot := 17, constantValue := 0 }, { name := "T_LONG", type := .int, accessFlags := 25, slot := 18, constantValue := 0 }, { name := "JLA", type := (.object "jdk/internal/access/JavaLangAccess"), accessFlags := 26, slot := 19, constantValue := 0 }, { name := "SOFT_MAX_ARRAY_LENGTH", type := .int, accessFlags := 25, slot := 20, constantValue := 0 }]
  methods := #[k13m0]
  instanceTypes := #[]
  staticTypes := #[(.object "jdk/internal/misc/Unsafe"), .boolean, .int, .int, .int, .int, .int, .int, .int, .int, .int, .int, .int, .int, .int, .int, .int, .int, .int, (.object "jdk/internal/access/JavaLangAccess"), .int]
  resolved := Array.replicate 378 none
  statics := none }

def pool14 : Array CpInfo := pool [(1, u "java/lang/Cloneable"), (0, .class_ 1), (0, u "java/lang/Object"), (0, .class_ 3)] 3

/-- java/lang/Cloneable -/
def k14 : Class := { plain "java/lang/Cloneable" (some 0) with
  accessFlags := 1537
  interfaces := #[]
  cf := some (fileOf pool14 2 #[] #[] 1537 4 #[] #[])
  fields := #[]
  methods := #[]
  instanceTypes := #[]
  staticTypes := #[]
  resolved := Array.replicate 8 none
  statics := none }

/-- the primitive byte -/
def k15 : Class := { plain "byte" none with kind := .primitive 'B', accessFlags := 0x411 }
/-- [B -/
def k16 : Class := { plain "[B" (some 0) with kind := .array 15 .byte, interfaces := #[14, 4], accessFlags := 1041 }

/-- the primitive char -/
def k17 : Class := { plain "char" none with kind := .primitive 'C', accessFlags := 0x411 }
/-- [C -/
def k18 : Class := { plain "[C" (some 0) with kind := .array 17 .char, interfaces := #[14, 4], accessFlags := 1041 }

/-- the primitive int -/
def k19 : Class := { plain "int" none with kind := .primitive 'I', accessFlags := 0x411 }
/-- [I -/
def k20 : Class := { plain "[I" (some 0) with kind := .array 19 .int, interfaces := #[14, 4], accessFlags := 1041 }

def heap : Heap := #[{ cls := 9, slots := #[.long 0, .int 1, .null, .int 0, .null, .int 0, .int 0], vm := .statics 9 },
  { cls := 12, slots := #[.null, .null, .null], vm := .statics 12 }]
def classes : Array Class := #[k0, k1, k2, k3, k4, k5, k6, k7, k8, k9, k10, k11, k12, k13, k14, k15, k16, k17, k18, k19, k20]
def interned : List (Array UInt16 × Addr) := []
def slotsUsed : Nat := 10
def theMethod : MethodId := ⟨1, 1⟩
def args0 : Array Value := #[.long 5, .long 5, .long 5, .long 5, .int 5]
def aboutOver (below : List Frame) : State where
  vm := { classes := classes, interned := interned.toArray }
  heap := heap
  slotsUsed := slotsUsed
  threads := #[{ frames := .invoking theMethod args0 :: below }]
def below0 : List Frame := [.native { method := ⟨0, 0⟩, args := #[] }]
def about1 : State := aboutOver below0
def p0 : Program := .bare "" "" ""
def e0 : Env := launch0.env 0 0 0
theorem w_frames : about1.frames = Frame.invoking theMethod args0 :: below0 := rfl
set_option maxRecDepth 65536 in
theorem w_args : argsFit about1.vm theMethod args0 = true := by decide +kernel
set_option maxRecDepth 65536 in
theorem w_heap : heapFits about1 = true := by decide +kernel
set_option maxRecDepth 65536 in
theorem w_runnable : about1.curStatus? = some .runnable := by decide +kernel
set_option maxRecDepth 65536 in
theorem w_alone : about1.alone = true := by decide +kernel
set_option maxRecDepth 65536 in
theorem w_named : about1.methodNamed? x = some theMethod := by decide +kernel
set_option maxRecDepth 65536 in
theorem w_hears : about1.hears theMethod below0 = true := by decide +kernel
set_option maxRecDepth 65536 in
theorem w_ripe : about1.ripe theMethod args0 below0 = true := by decide +kernel
theorem w_running : about1.status = .running := rfl
set_option maxRecDepth 65536 in
theorem w_room : about1.hasRoom e0.platform room_1 = true :=
  launch0.hasRoom_least _ room_1 (by decide +kernel) (by decide +kernel) (by decide +kernel) (by decide +kernel) (by decide +kernel) (by decide +kernel)
theorem allAtoms_all (ts : List Jvm.Cond) (a : Array Jvm.Value) (st : Jvm.State) : (allAtoms ts).before a st = ts.all (fun c => c.before a st) := by
  induction ts with
  | nil => rfl
  | cons c t ih =>
    show (Jvm.Cond.and c (allAtoms t)).before a st = _
    rw [Jvm.Cond.before_and, ih, List.all_cons]
def words1 : List Jvm.Cond := Jvm.Cond.code x code maxLocals ret :: tables_1
/-- a 'code' word, met by the world's own term for the bytes: nothing is compared byte by byte -/
theorem code_word {y : MethodName} {bytes : ByteArray} {mx : Nat} {rt : Option FieldType} {a : Array Value} {s : State} {m : MethodId} {meth : Method} {c : Code} (h1 : s.methodNamed? y = some m) (h2 : s.vm.method? m = some meth) (h3 : meth.code = some c) (h4 : c.code = bytes)
    (h5 : (c.maxLocals == mx && c.exceptionTable.isEmpty && decide (c.maxStack ≤ mostOperands) && decide (meth.sig.returnType = rt) && !meth.locks && decide (parseMethodDescriptor y.desc = some meth.sig)) = true) : (Jvm.Cond.code y bytes mx rt).before a s = true := by
  simp only [Bool.and_eq_true, beq_iff_eq, Bool.not_eq_true', decide_eq_true_eq] at h5
  obtain ⟨⟨⟨⟨⟨g1, g2⟩, g3⟩, g4⟩, g5⟩, g6⟩ := h5
  simp [Cond.before, Cond.holds, Cond.value, h1, h2, h3, h4, g1, g2, g3, g4, g5, g6]
def isCode : Jvm.Cond → Bool
  | .code _ _ _ _ => true
  | _ => false
theorem all_split {L : List Jvm.Cond} {P : Jvm.Cond → Bool} (h1 : L.all (fun c => isCode c || P c) = true) (h2 : ∀ c ∈ L.filter isCode, P c = true) : L.all P = true := by
  refine List.all_eq_true.mpr fun c hc => ?_
  have h := List.all_eq_true.mp h1 c hc
  rcases Bool.eq_false_or_eq_true (isCode c) with hi | hi
  · exact h2 c (List.mem_filter.mpr ⟨hc, hi⟩)
  · simpa [hi] using h
set_option maxRecDepth 65536 in
theorem w_c0 : (Jvm.Cond.code x code maxLocals ret).before args0 about1 = true := code_word (m := ⟨1, 1⟩) (meth := k1m1) (c := k1c1) (by decide +kernel) rfl rfl rfl (by decide +kernel)
set_option maxRecDepth 65536 in
theorem w_c1 : (Jvm.Cond.code ({ cls := "com/example/benchwire/benchwire/protocol/hl7/TypeEqualsPinLaw", name := "str", desc := "(J)Ljava/lang/String;" } : Jvm.MethodName) method_3_code (7 : Nat) (Option.some (Jvm.ClassFile.FieldType.object "java/lang/String"))).before args0 about1 = true := code_word (m := ⟨1, 2⟩) (meth := k1m2) (c := k1c2) (by decide +kernel) rfl rfl rfl (by decide +kernel)
set_option maxRecDepth 65536 in
theorem w_c2 : (Jvm.Cond.code ({ cls := "java/lang/String", name := "<init>", desc := "([C)V" } : Jvm.MethodName) jdk_42_method_3_code (2 : Nat) (Option.none : Option Jvm.ClassFile.FieldType)).before args0 about1 = true := code_word (m := ⟨9, 1⟩) (meth := k9m1) (c := k9c1) (by decide +kernel) rfl rfl rfl (by decide +kernel)
set_option maxRecDepth 65536 in
theorem w_c3 : (Jvm.Cond.code ({ cls := "java/lang/String", name := "<init>", desc := "([CIILjava/lang/Void;)V" } : Jvm.MethodName) jdk_42_method_149_code (6 : Nat) (Option.none : Option Jvm.ClassFile.FieldType)).before args0 about1 = true := code_word (m := ⟨9, 3⟩) (meth := k9m3) (c := k9c3) (by decide +kernel) rfl rfl rfl (by decide +kernel)
set_option maxRecDepth 65536 in
theorem w_c4 : (Jvm.Cond.code ({ cls := "java/lang/Object", name := "<init>", desc := "()V" } : Jvm.MethodName) object_method_1_code (1 : Nat) (Option.none : Option Jvm.ClassFile.FieldType)).before args0 about1 = true := code_word (m := ⟨0, 0⟩) (meth := k0m0) (c := k0c0) (by decide +kernel) rfl rfl rfl (by decide +kernel)
set_option maxRecDepth 65536 in
theorem w_c5 : (Jvm.Cond.code ({ cls := "java/lang/StringUTF16", name := "compress", desc := "([CII)[B" } : Jvm.MethodName) jdk_52_method_16_code (6 : Nat) (Option.some (Jvm.ClassFile.FieldType.array Jvm.ClassFile.FieldType.byte))).before args0 about1 = true := code_word (m := ⟨10, 2⟩) (meth := k10m2) (c := k10c2) (by decide +kernel) rfl rfl rfl (by decide +kernel)
set_option maxRecDepth 65536 in
theorem w_c6 : (Jvm.Cond.code ({ cls := "java/lang/StringUTF16", name := "compress", desc := "([CI[BII)I" } : Jvm.MethodName) jdk_52_method_21_code (7 : Nat) (Option.some Jvm.ClassFile.FieldType.int)).before args0 about1 = true := code_word (m := ⟨10, 3⟩) (meth := k10m3) (c := k10c3) (by decide +kernel) rfl rfl rfl (by decide +kernel)
set_option maxRecDepth 65536 in
theorem w_c7 : (Jvm.Cond.code ({ cls := "java/lang/StringUTF16", name := "coderFromArrayLen", desc := "([BI)B" } : Jvm.MethodName) jdk_52_method_15_code (2 : Nat) (Option.some Jvm.ClassFile.FieldType.byte)).before args0 about1 = true := code_word (m := ⟨10, 1⟩) (meth := k10m1) (c := k10c1) (by decide +kernel) rfl rfl rfl (by decide +kernel)
set_option maxRecDepth 65536 in
theorem w_c8 : (Jvm.Cond.code ({ cls := "com/example/benchwire/benchwire/protocol/hl7/Hl7Message$Type", name := "<init>", desc := "(Ljava/lang/String;Ljava/lang/String;)V" } : Jvm.MethodName) prog_102_method_1_code (3 : Nat) (Option.none : Option Jvm.ClassFile.FieldType)).before args0 about1 = true := code_word (m := ⟨3, 0⟩) (meth := k3m0) (c := k3c0) (by decide +kernel) rfl rfl rfl (by decide +kernel)
set_option maxRecDepth 65536 in
theorem w_c9 : (Jvm.Cond.code ({ cls := "java/lang/Record", name := "<init>", desc := "()V" } : Jvm.MethodName) jdk_30_method_1_code (1 : Nat) (Option.none : Option Jvm.ClassFile.FieldType)).before args0 about1 = true := code_word (m := ⟨2, 0⟩) (meth := k2m0) (c := k2c0) (by decide +kernel) rfl rfl rfl (by decide +kernel)
set_option maxRecDepth 65536 in
theorem w_c10 : (Jvm.Cond.code ({ cls := "com/example/benchwire/benchwire/protocol/hl7/Hl7Message$Type", name := "equals", desc := "(Ljava/lang/Object;)Z" } : Jvm.MethodName) prog_102_method_2_code (3 : Nat) (Option.some Jvm.ClassFile.FieldType.boolean)).before args0 about1 = true := code_word (m := ⟨3, 1⟩) (meth := k3m1) (c := k3c1) (by decide +kernel) rfl rfl rfl (by decide +kernel)
set_option maxRecDepth 65536 in
theorem w_c11 : (Jvm.Cond.code ({ cls := "java/lang/String", name := "equals", desc := "(Ljava/lang/Object;)Z" } : Jvm.MethodName) jdk_42_method_66_code (3 : Nat) (Option.some Jvm.ClassFile.FieldType.boolean)).before args0 about1 = true := code_word (m := ⟨9, 2⟩) (meth := k9m2) (c := k9c2) (by decide +kernel) rfl rfl rfl (by decide +kernel)
set_option maxRecDepth 65536 in
theorem w_c12 : (Jvm.Cond.code ({ cls := "com/example/benchwire/benchwire/protocol/hl7/TypeEqualsPinLaw", name := "same", desc := "(JJ)Z" } : Jvm.MethodName) method_4_code (10 : Nat) (Option.some Jvm.ClassFile.FieldType.boolean)).before args0 about1 = true := code_word (m := ⟨1, 3⟩) (meth := k1m3) (c := k1c3) (by decide +kernel) rfl rfl rfl (by decide +kernel)
set_option maxRecDepth 65536 in
theorem w_c13 : (Jvm.Cond.code ({ cls := "java/lang/StringLatin1", name := "equals", desc := "([B[B)Z" } : Jvm.MethodName) jdk_43_method_13_code (3 : Nat) (Option.some Jvm.ClassFile.FieldType.boolean)).before args0 about1 = true := code_word (m := ⟨11, 1⟩) (meth := k11m1) (c := k11c1) (by decide +kernel) rfl rfl rfl (by decide +kernel)
def codes1 : List Jvm.Cond := [Jvm.Cond.code x code maxLocals ret, Jvm.Cond.code ({ cls := "com/example/benchwire/benchwire/protocol/hl7/TypeEqualsPinLaw", name := "str", desc := "(J)Ljava/lang/String;" } : Jvm.MethodName) method_3_code (7 : Nat) (Option.some (Jvm.ClassFile.FieldType.object "java/lang/String")), Jvm.Cond.code ({ cls := "java/lang/String", name := "<init>", desc := "([C)V" } : Jvm.MethodName) jdk_42_method_3_code (2 : Nat) (Option.none : Option Jvm.ClassFile.FieldType), Jvm.Cond.code ({ cls := "java/lang/String", name := "<init>", desc := "([CIILjava/lang/Void;)V" } : Jvm.MethodName) jdk_42_method_149_code (6 : Nat) (Option.none : Option Jvm.ClassFile.FieldType), Jvm.Cond.code ({ cls := "java/lang/Object", name := "<init>", desc := "()V" } : Jvm.MethodName) object_method_1_code (1 : Nat) (Option.none : Option Jvm.ClassFile.FieldType), Jvm.Cond.code ({ cls := "java/lang/StringUTF16", name := "compress", desc := "([CII)[B" } : Jvm.MethodName) jdk_52_method_16_code (6 : Nat) (Option.some (Jvm.ClassFile.FieldType.array Jvm.ClassFile.FieldType.byte)), Jvm.Cond.code ({ cls := "java/lang/StringUTF16", name := "compress", desc := "([CI[BII)I" } : Jvm.MethodName) jdk_52_method_21_code (7 : Nat) (Option.some Jvm.ClassFile.FieldType.int), Jvm.Cond.code ({ cls := "java/lang/StringUTF16", name := "coderFromArrayLen", desc := "([BI)B" } : Jvm.MethodName) jdk_52_method_15_code (2 : Nat) (Option.some Jvm.ClassFile.FieldType.byte), Jvm.Cond.code ({ cls := "com/example/benchwire/benchwire/protocol/hl7/Hl7Message$Type", name := "<init>", desc := "(Ljava/lang/String;Ljava/lang/String;)V" } : Jvm.MethodName) prog_102_method_1_code (3 : Nat) (Option.none : Option Jvm.ClassFile.FieldType), Jvm.Cond.code ({ cls := "java/lang/Record", name := "<init>", desc := "()V" } : Jvm.MethodName) jdk_30_method_1_code (1 : Nat) (Option.none : Option Jvm.ClassFile.FieldType), Jvm.Cond.code ({ cls := "com/example/benchwire/benchwire/protocol/hl7/Hl7Message$Type", name := "equals", desc := "(Ljava/lang/Object;)Z" } : Jvm.MethodName) prog_102_method_2_code (3 : Nat) (Option.some Jvm.ClassFile.FieldType.boolean), Jvm.Cond.code ({ cls := "java/lang/String", name := "equals", desc := "(Ljava/lang/Object;)Z" } : Jvm.MethodName) jdk_42_method_66_code (3 : Nat) (Option.some Jvm.ClassFile.FieldType.boolean), Jvm.Cond.code ({ cls := "com/example/benchwire/benchwire/protocol/hl7/TypeEqualsPinLaw", name := "same", desc := "(JJ)Z" } : Jvm.MethodName) method_4_code (10 : Nat) (Option.some Jvm.ClassFile.FieldType.boolean), Jvm.Cond.code ({ cls := "java/lang/StringLatin1", name := "equals", desc := "([B[B)Z" } : Jvm.MethodName) jdk_43_method_13_code (3 : Nat) (Option.some Jvm.ClassFile.FieldType.boolean)]
set_option maxRecDepth 65536 in
theorem codes_eq : words1.filter isCode = codes1 := rfl
theorem w_codes : ∀ c ∈ words1.filter isCode, c.before args0 about1 = true := by
  rw [codes_eq]
  intro c hc
  simp only [codes1, List.mem_cons, List.not_mem_nil, or_false] at hc
  rcases hc with rfl | rfl | rfl | rfl | rfl | rfl | rfl | rfl | rfl | rfl | rfl | rfl | rfl | rfl
  · exact w_c0
  · exact w_c1
  · exact w_c2
  · exact w_c3
  · exact w_c4
  · exact w_c5
  · exact w_c6
  · exact w_c7
  · exact w_c8
  · exact w_c9
  · exact w_c10
  · exact w_c11
  · exact w_c12
  · exact w_c13
set_option maxRecDepth 65536 in
theorem w_t1 : (words1.take 24).all (fun c => isCode c || c.before args0 about1) = true := by decide +kernel
set_option maxRecDepth 65536 in
theorem w_t2 : ((words1.drop 24).take 24).all (fun c => isCode c || c.before args0 about1) = true := by decide +kernel
set_option maxRecDepth 65536 in
theorem w_t3 : (((words1.drop 24).drop 24).take 24).all (fun c => isCode c || c.before args0 about1) = true := by decide +kernel
set_option maxRecDepth 65536 in
theorem w_t4 : (((words1.drop 24).drop 24).drop 24).all (fun c => isCode c || c.before args0 about1) = true := by decide +kernel
theorem w_tables : (allAtoms (Jvm.Cond.code x code maxLocals ret :: tables_1)).before args0 about1 = true := by
  rw [allAtoms_all]
  show words1.all (fun c => c.before args0 about1) = true
  refine all_split ?_ w_codes
  rw [← List.take_append_drop 24 words1, List.all_append, w_t1, ← List.take_append_drop 24 (words1.drop 24), List.all_append, w_t2, ← List.take_append_drop 24 ((words1.drop 24).drop 24), List.all_append, w_t3, w_t4]
  rfl
set_option maxRecDepth 65536 in
theorem w_rest : rest_1_c.before args0 about1 = true := by decide +kernel
set_option maxRecDepth 65536 in
theorem w_case : (Jvm.Cond.and given_1 narrow_1).before args0 about1 = true := by decide +kernel
set_option maxRecDepth 65536 in
theorem w_consts : constsHeld consts_1 about1 := Jvm.Lit.constsHeldB_iff.mp (by decide +kernel)
theorem w_applies : (headSpec (Jvm.Cond.code x code maxLocals ret :: tables_1) room_1).applies x e0.platform about1 = true :=
  (Spec.applies_iff w_frames).mpr ⟨w_running, w_runnable, w_alone, w_named, w_hears, w_ripe, w_room, w_tables⟩
theorem atStart : AtStart classFile x code maxLocals ret World_1 tables_1 room_1 Calls_1 rest_1 Pre_1 launch0 p0 e0 about1 theMethod args0 below0 :=
  ⟨lists_1, trivial, launch0.admits_env _ _ _, launch0.least_env, fairChoices_fair.cas, fairChoices_fair.clock, w_frames, w_args, w_heap, w_applies, ⟨w_consts, trivial⟩, w_rest, w_case⟩
end start1
theorem witness_1 : WitnessClaimed_1 := ⟨start1.p0, start1.e0, start1.about1, start1.theMethod, start1.args0, start1.below0, start1.atStart⟩
end Jvm.Pilot.@@N@@
